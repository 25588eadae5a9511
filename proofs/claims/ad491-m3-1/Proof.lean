import JvmDerived
import JvmDerived.Pilot.@@N@@Statement
import JvmDerived.Pilot.@@N@@Code
set_option linter.unusedVariables false
set_option linter.unusedSimpArgs false
@@BLOCK:NumsL.lean.txt@@
namespace Jvm.RoadKit
open Sem ClassFile Op Lib Jvm.Stand Jvm.Free Jvm.LawKit
section New
variable {p : Program} {l : Launch} {e : Env} {R : Room} {s : State} {m : MethodId} {args : Array Value} {below : List Frame} {meth : Method} {c : Code} {T : State} {locs : List Loc} {cells slots : Nat}
theorem retI (X : Stand p l e R s m args below meth c T locs cells slots) (hx : p.tables.exec = Jvm.exec) {pc : Nat} {Ls : Array Slot} {z : Int32} {rest : List Value} (hret : meth.sig.returnType = some .int) (hd : decode c.code pc = .ok (.ireturn, 1)) {fs : List Frame}
    (hl : ∀ (f : JFrame) (acts : List Action), f.method = m → f.locked = none → f.entered = [] → (doReturn e (T.setTop f) acts (some (.int z))).1 = T.setFrames fs) : Steps p.tables e below (T.setTop (mkF m pc Ls (.int z :: rest))) (T.setFrames fs) := by
  have hm' : T.vm.method? m = some meth := X.method'
  have hn : narrow .int (.int z) = .int z := rfl
  show Steps p.tables e below (T.setTop { method := m, pc := pc, locals := Ls, stack := _ :: rest, locked := none }) _
  jvm_step X.here [X.here.top, hx, hd, hm', hret, hn]
  first | (intro acts; rw [hl _ acts rfl rfl rfl]) | rw [hl _ _ rfl rfl rfl]
  exact Steps.refl _
end New
end Jvm.RoadKit
/- laws to paste: Road.backV, StrChars.pair_says, StrChars.narrow_ch, StrChars.chr8_lo8 (cut by pick.py; bodies as the Statement names them) -/
namespace Jvm.Pilot.@@N@@
namespace StrChars
open Jvm Sem ClassFile Op Lib Jvm.Stand Jvm.Free.XT Jvm.Free.ALB Jvm.Free.JM Jvm.Free
open Jvm.Lib.Cold (StaticIs)
/-- a char array whose places are chars -/
def Ch (a : Addr) (A : Cell) (U : State) : Prop := Arr .char a A U ∧ Typed .char A
theorem Ch.mv {a : Addr} {A : Cell} {U U' : State} (h : Ch a A U) (hal : U.vm.Alike U'.vm) (hh : U'.heap = U.heap) : Ch a A U' := ⟨h.1.mv hal hh, h.2⟩
theorem Ch.keep {a : Addr} {A : Cell} {U U' : State} (h : Ch a A U) (hal : U.vm.Alike U'.vm) (hk : U'.heap[a]? = some A) : Ch a A U' := ⟨h.1.keep hal hk, h.2⟩
/-- what place i of a char[]'s cell holds -/
def cv (A : Cell) (i : Nat) : Int32 := match A.slots[i]? with | some (.int x) => x | _ => 0
theorem Ch.get {a : Addr} {A : Cell} {U : State} (h : Ch a A U) {i : Nat} (hi : i < A.slots.size) : A.slots[i]? = some (.int (cv A i)) := by
  have e := Array.getElem?_eq_getElem hi
  have f := h.2 i _ e
  unfold cv; rw [e]
  generalize A.slots[i] = v at f
  cases v <;> simp [fits] at f ⊢
/-- the byte that i2b leaves of a char -/
def lo8 (x : Int32) : Int32 := x.toInt8.toInt32
theorem fits_lo8 (y : Int32) : fits .byte (.int (lo8 y)) = true := by
  have h1 := y.toInt8.le_toInt
  have h2 := y.toInt8.toInt_lt
  simp only [lo8, fits, Bool.and_eq_true, decide_eq_true_eq, Int32.le_iff_toInt_le, Int8.toInt_toInt32, show (-128 : Int32).toInt = -128 from by decide, show (127 : Int32).toInt = 127 from by decide]
  omega
/-- A' is A but that each place j of lo .. hi - 1 holds f j -/
def Laid (A A' : Cell) (lo hi : Nat) (f : Nat → Value) : Prop := A'.cls = A.cls ∧ A'.vm = A.vm ∧ A'.slots.size = A.slots.size ∧ ∀ i, A'.slots[i]? = if lo ≤ i ∧ i < hi then some (f i) else A.slots[i]?
theorem Laid.zero (A : Cell) (lo : Nat) (f : Nat → Value) : Laid A A lo (lo + 0) f := ⟨rfl, rfl, rfl, fun i => by rw [if_neg (by omega)]⟩
theorem Laid.step {A Ak : Cell} {lo k : Nat} {f : Nat → Value} {v : Value} (h : Laid A Ak lo k f) (hlo : lo ≤ k) (hk : k < Ak.slots.size) (hv : v = f k) : Laid A (Ak.setSlot k v) lo (k + 1) f := by
  refine ⟨h.1, h.2.1, by simpa [Cell.setSlot] using h.2.2.1, fun i => ?_⟩
  by_cases e : k = i
  · subst e; rw [Cell.slots_setSlot_self v hk, if_pos (by omega), hv]
  · rw [Cell.slots_setSlot_ne v e, h.2.2.2 i]
    by_cases q : lo ≤ i ∧ i < k
    · rw [if_pos q, if_pos (by omega)]
    · rw [if_neg q, if_neg (by omega)]
def U16 : String := "java/lang/StringUTF16"
namespace Cmp5
def yN : MethodName := ⟨"java/lang/StringUTF16", "compress", "([CI[BII)I"⟩
abbrev yB : ByteArray := jdk_52_method_21_code
theorem d0 : decode yB 0 = .ok (.iconst 0, 1) := by decide +kernel
theorem d1 : decode yB 1 = .ok (.istore 5, 2) := by decide +kernel
theorem d3 : decode yB 3 = .ok (.iload 5, 2) := by decide +kernel
theorem d5 : decode yB 5 = .ok (.iload 4, 2) := by decide +kernel
theorem d7 : decode yB 7 = .ok (.if_icmp (.ge) 37, 3) := by decide +kernel
theorem d10 : decode yB 10 = .ok (.aload_n 0, 1) := by decide +kernel
theorem d11 : decode yB 11 = .ok (.iload_n 1, 1) := by decide +kernel
theorem d12 : decode yB 12 = .ok (.caload, 1) := by decide +kernel
theorem d13 : decode yB 13 = .ok (.istore 6, 2) := by decide +kernel
theorem d15 : decode yB 15 = .ok (.iload 6, 2) := by decide +kernel
theorem d17 : decode yB 17 = .ok (.sipush 255, 3) := by decide +kernel
theorem d20 : decode yB 20 = .ok (.if_icmp (.le) 6, 3) := by decide +kernel
theorem d26 : decode yB 26 = .ok (.aload_n 2, 1) := by decide +kernel
theorem d27 : decode yB 27 = .ok (.iload_n 3, 1) := by decide +kernel
theorem d28 : decode yB 28 = .ok (.iload 6, 2) := by decide +kernel
theorem d30 : decode yB 30 = .ok (.i2b, 1) := by decide +kernel
theorem d31 : decode yB 31 = .ok (.bastore, 1) := by decide +kernel
theorem d32 : decode yB 32 = .ok (.iinc 1 1, 3) := by decide +kernel
theorem d35 : decode yB 35 = .ok (.iinc 3 1, 3) := by decide +kernel
theorem d38 : decode yB 38 = .ok (.iinc 5 1, 3) := by decide +kernel
theorem d41 : decode yB 41 = .ok (.goto (-38), 3) := by decide +kernel
theorem d44 : decode yB 44 = .ok (.iload 4, 2) := by decide +kernel
theorem d46 : decode yB 46 = .ok (.ireturn, 1) := by decide +kernel
def site : List Cond := []
def tab : Cond := tabOf yN yB 7 (some .int) site
def P (b : Addr) (A : Cell) (d : Addr) (B : Cell) (o q len : Nat) (args : Array Value) (s : State) : Prop := args = #[.ref b, .int (Int32.ofNat o), .ref d, .int (Int32.ofNat q), .int (Int32.ofNat len)] ∧ Ch b A s ∧ Arr .byte d B s ∧ b ≠ d ∧ o + len ≤ A.slots.size ∧ q + len ≤ B.slots.size ∧ ∀ i, i < len → ¬ 255 < cv A (o + i)
def E (b : Addr) (A : Cell) (d : Addr) (B : Cell) (o q len : Nat) (r : Option Value) (s u : State) : Prop := r = some (.int (Int32.ofNat len)) ∧ ∃ B', Put d B' s u ∧ Laid B B' q (q + len) (fun j => Value.int (lo8 (cv A (o + (j - q)))))
/-- no char of the range above 255: len; the places written hold each char's low byte -/
theorem law (l : Launch) (b : Addr) (A : Cell) (d : Addr) (B : Cell) (o q len : Nat) : Law l yN 5 5 0 0 yB 7 (some .int) site (P b A d B o q len) (E b A d B o q len) (copyLocs d q len) 0 0 := by
  refine Law.of_walk (plainFor_of_name (by decide +kernel)) (by decide +kernel) (by decide +kernel) (by decide) (fun _ _ h => by rw [h.1]; rfl) (fun _ U U' hal hh h => ⟨h.1, h.2.1.mv hal hh, h.2.2.1.mv hal hh, h.2.2.2⟩) (fun r U U' V V' h1 hal h2 h => ⟨h.1, h.2.elim fun B' q => ⟨B', q.1.mv h1 h2, q.2⟩⟩) ?_
  intro p e s m args below meth c s₁ X0 hexec hbytes hml hret hlk hnm hown hh0 W hP
  obtain ⟨rfl, hA, hB, hne, l1, l2, hp⟩ := hP
  have c1 : Steps p.tables e below (s₁.setTop (entryFrame m #[.ref b, .int (Int32.ofNat o), .ref d, .int (Int32.ofNat q), .int (Int32.ofNat len)] 7)) (s₁.setTop (mkF m 0 #[.val (.ref b), .val (.int (Int32.ofNat o)), .val (.ref d), .val (.int (Int32.ofNat q)), .val (.int (Int32.ofNat len)), .unset, .unset] [])) := entry rfl
  have hA0 := hA.1.mv X0.warmed.alike hh0
  have hB0 := hB.mv X0.warmed.alike hh0
  have a31 := hA.1.2.2.2
  have c2 : Steps p.tables e below (s₁.setTop (entryFrame m #[.ref b, .int (Int32.ofNat o), .ref d, .int (Int32.ofNat q), .int (Int32.ofNat len)] 7)) (s₁.setTop (mkF m 3 #[.val (.ref b), .val (.int (Int32.ofNat o)), .val (.ref d), .val (.int (Int32.ofNat q)), .val (.int (Int32.ofNat len)), .val (.int 0), .unset] [])) := c1.trans (by
    refine iconstV X0.here hexec rfl 0 (hb hbytes d0) (by decide) ?_
    refine XS.istore X0.here hexec rfl (hb hbytes d1) rfl rfl ?_
    exact Steps.refl _)
  have loop : ∀ (r i : Nat), i + r = len → ∀ (z : Slot), (z = .unset ∨ ∃ w, z = .val w ∧ w.category = 1) → ∀ (Tl : State) (Bk : Cell), Stand p l e { frames := 0, locals := 0, cells := 0, slots := 0 } s m #[.ref b, .int (Int32.ofNat o), .ref d, .int (Int32.ofNat q), .int (Int32.ofNat len)] below meth c Tl ([] ++ copyLocs d q i) 0 0 → Put d Bk s₁ Tl → Laid B Bk q (q + i) (fun j => Value.int (lo8 (cv A (o + (j - q))))) →
      Steps p.tables e below (s₁.setTop (entryFrame m #[.ref b, .int (Int32.ofNat o), .ref d, .int (Int32.ofNat q), .int (Int32.ofNat len)] 7)) (Tl.setTop (mkF m 3 #[.val (.ref b), .val (.int (Int32.ofNat (o + i))), .val (.ref d), .val (.int (Int32.ofNat (q + i))), .val (.int (Int32.ofNat len)), .val (.int (Int32.ofNat i)), z] [])) → ∃ (T' : State) (B' : Cell) (z' : Slot), Stand p l e { frames := 0, locals := 0, cells := 0, slots := 0 } s m #[.ref b, .int (Int32.ofNat o), .ref d, .int (Int32.ofNat q), .int (Int32.ofNat len)] below meth c T' ([] ++ copyLocs d q len) 0 0 ∧ Put d B' s₁ T' ∧ Laid B B' q (q + len) (fun j => Value.int (lo8 (cv A (o + (j - q))))) ∧
      Steps p.tables e below (s₁.setTop (entryFrame m #[.ref b, .int (Int32.ofNat o), .ref d, .int (Int32.ofNat q), .int (Int32.ofNat len)] 7)) (T'.setTop (mkF m 3 #[.val (.ref b), .val (.int (Int32.ofNat (o + len))), .val (.ref d), .val (.int (Int32.ofNat (q + len))), .val (.int (Int32.ofNat len)), .val (.int (Int32.ofNat len)), z'] [])) := by
    intro r
    induction r with
    | zero =>
      intro i hi z hz Tl Bk Xl pl fl cl
      have hil : i = len := by omega
      rw [hil] at Xl fl cl
      exact ⟨Tl, Bk, z, Xl, pl, fl, cl⟩
    | succ r ih =>
      intro i hi z hz Tl Bk Xl pl fl cl
      have all := X0.warmed.alike.symm.trans Xl.warmed.alike
      have hAl := hA0.keep all (pl.other hne hA0.1)
      have hBk := hB0.like all pl.1 fl.1 fl.2.1 fl.2.2.1
      have hlt : q + i < Bk.slots.size := by rw [fl.2.2.1]; omega
      have c3 : Steps p.tables e below (s₁.setTop (entryFrame m #[.ref b, .int (Int32.ofNat o), .ref d, .int (Int32.ofNat q), .int (Int32.ofNat len)] 7)) (Tl.setTop (mkF m 12 #[.val (.ref b), .val (.int (Int32.ofNat (o + i))), .val (.ref d), .val (.int (Int32.ofNat (q + i))), .val (.int (Int32.ofNat len)), .val (.int (Int32.ofNat i)), z] [.int (Int32.ofNat (o + i)), .ref b])) := cl.trans (by
        refine XS.iload Xl.here hexec rfl (hb hbytes d3) rfl ?_
        refine XS.iload Xl.here hexec rfl (hb hbytes d5) rfl ?_
        refine XS.icmpNo Xl.here hexec rfl (hb hbytes d7) rfl (ii_ge_f (lt32 (by omega) (by omega))) ?_
        refine XS.aloadN Xl.here hexec rfl (hb hbytes d10) rfl rfl ?_
        refine XS.iloadN Xl.here hexec rfl (hb hbytes d11) rfl ?_
        exact Steps.refl _)
      have c4 : Steps p.tables e below (s₁.setTop (entryFrame m #[.ref b, .int (Int32.ofNat o), .ref d, .int (Int32.ofNat q), .int (Int32.ofNat len)] 7)) (Tl.setTop (mkF m 13 #[.val (.ref b), .val (.int (Int32.ofNat (o + i))), .val (.ref d), .val (.int (Int32.ofNat (q + i))), .val (.int (Int32.ofNat len)), .val (.int (Int32.ofNat i)), z] [.int (cv A (o + i))])) := c3.trans (by
        refine Xl.aget hexec hAl rfl (hA.get (i := o + i) (by omega)) rfl rfl (hb hbytes d12) ?_
        exact Steps.refl _)
      have c5 : Steps p.tables e below (s₁.setTop (entryFrame m #[.ref b, .int (Int32.ofNat o), .ref d, .int (Int32.ofNat q), .int (Int32.ofNat len)] 7)) (Tl.setTop (mkF m 15 #[.val (.ref b), .val (.int (Int32.ofNat (o + i))), .val (.ref d), .val (.int (Int32.ofNat (q + i))), .val (.int (Int32.ofNat len)), .val (.int (Int32.ofNat i)), .val (.int (cv A (o + i)))] [])) := c4.trans (by
        refine XS.istoreS Xl.here hexec rfl (hb hbytes d13) rfl rfl hz ?_
        exact Steps.refl _)
      have c6 : Steps p.tables e below (s₁.setTop (entryFrame m #[.ref b, .int (Int32.ofNat o), .ref d, .int (Int32.ofNat q), .int (Int32.ofNat len)] 7)) (Tl.setTop (mkF m 31 #[.val (.ref b), .val (.int (Int32.ofNat (o + i))), .val (.ref d), .val (.int (Int32.ofNat (q + i))), .val (.int (Int32.ofNat len)), .val (.int (Int32.ofNat i)), .val (.int (cv A (o + i)))] [.int (lo8 (cv A (o + i))), .int (Int32.ofNat (q + i)), .ref d])) := c5.trans (by
        refine XS.iload Xl.here hexec rfl (hb hbytes d15) rfl ?_
        refine sipushV Xl.here hexec rfl 255 (hb hbytes d17) (by decide) ?_
        refine XS.icmpYes Xl.here hexec rfl (pc0 := 20) rfl (hb hbytes d20) rfl (ii_le_t (hp i (by omega))) (by decide) rfl ?_
        refine XS.aloadN Xl.here hexec rfl (hb hbytes d26) rfl rfl ?_
        refine XS.iloadN Xl.here hexec rfl (hb hbytes d27) rfl ?_
        refine XS.iload Xl.here hexec rfl (hb hbytes d28) rfl ?_
        refine i2b Xl.here hexec rfl (hb hbytes d30) rfl ?_
        exact Steps.refl _)
      obtain ⟨T7, X7, p7, st7⟩ := Xl.aput hexec hBk rfl hlt rfl (fits_lo8 (cv A (o + i))) (g := (mkF m 31 #[.val (.ref b), .val (.int (Int32.ofNat (o + i))), .val (.ref d), .val (.int (Int32.ofNat (q + i))), .val (.int (Int32.ofNat len)), .val (.int (Int32.ofNat i)), .val (.int (cv A (o + i)))] [.int (lo8 (cv A (o + i))), .int (Int32.ofNat (q + i)), .ref d])) rfl (rest := []) rfl (hb hbytes d31)
      have c8 : Steps p.tables e below (s₁.setTop (entryFrame m #[.ref b, .int (Int32.ofNat o), .ref d, .int (Int32.ofNat q), .int (Int32.ofNat len)] 7)) (T7.setTop (mkF m 32 #[.val (.ref b), .val (.int (Int32.ofNat (o + i))), .val (.ref d), .val (.int (Int32.ofNat (q + i))), .val (.int (Int32.ofNat len)), .val (.int (Int32.ofNat i)), .val (.int (cv A (o + i)))] [])) := c6.trans (st7 _ (Steps.refl _))
      have c9 : Steps p.tables e below (s₁.setTop (entryFrame m #[.ref b, .int (Int32.ofNat o), .ref d, .int (Int32.ofNat q), .int (Int32.ofNat len)] 7)) (T7.setTop (mkF m 3 #[.val (.ref b), .val (.int (Int32.ofNat (o + i) + 1)), .val (.ref d), .val (.int (Int32.ofNat (q + i) + 1)), .val (.int (Int32.ofNat len)), .val (.int (Int32.ofNat i + 1)), .val (.int (cv A (o + i)))] [])) := c8.trans (by
        refine iincV X7.here hexec rfl 1 (hb hbytes d32) (by decide) rfl rfl ?_
        refine iincV X7.here hexec rfl 1 (hb hbytes d35) (by decide) rfl rfl ?_
        refine iincV X7.here hexec rfl 1 (hb hbytes d38) (by decide) rfl rfl ?_
        refine XS.goto X7.here hexec rfl (pc0 := 41) rfl (hb hbytes d41) (by decide) rfl ?_
        exact Steps.refl _)
      have c10 : Steps p.tables e below (s₁.setTop (entryFrame m #[.ref b, .int (Int32.ofNat o), .ref d, .int (Int32.ofNat q), .int (Int32.ofNat len)] 7)) (T7.setTop (mkF m 3 #[.val (.ref b), .val (.int (Int32.ofNat (o + (i + 1)))), .val (.ref d), .val (.int (Int32.ofNat (q + (i + 1)))), .val (.int (Int32.ofNat len)), .val (.int (Int32.ofNat (i + 1))), .val (.int (cv A (o + i)))] [])) := by
        have := c9
        rw [succ32, succ32, succ32] at this
        exact this
      exact ih (i + 1) (by omega) _ (Or.inr ⟨_, rfl, rfl⟩) T7 _ (by rw [copyLocs_step, ← List.append_assoc]; exact X7) (pl.trans p7) (fl.step (by omega) hlt (by simp)) c10
  obtain ⟨T9, B9, z9, X9, p9, f9, g9⟩ := loop len 0 (by omega) .unset (Or.inl rfl) s₁ B (by simpa [copyLocs] using X0) ⟨hB0.1, fun _ _ => rfl, rfl⟩ (Laid.zero _ _ _) c2
  have c11 : Steps p.tables e below (s₁.setTop (entryFrame m #[.ref b, .int (Int32.ofNat o), .ref d, .int (Int32.ofNat q), .int (Int32.ofNat len)] 7)) (T9.setTop (mkF m 46 #[.val (.ref b), .val (.int (Int32.ofNat (o + len))), .val (.ref d), .val (.int (Int32.ofNat (q + len))), .val (.int (Int32.ofNat len)), .val (.int (Int32.ofNat len)), z9] [.int (Int32.ofNat len)])) := g9.trans (by
    refine XS.iload X9.here hexec rfl (hb hbytes d3) rfl ?_
    refine XS.iload X9.here hexec rfl (hb hbytes d5) rfl ?_
    refine XS.icmpYes X9.here hexec rfl (pc0 := 7) rfl (hb hbytes d7) rfl (ii_ge_t (nlt32 (by omega) (Nat.le_refl _))) (by decide) rfl ?_
    refine XS.iload X9.here hexec rfl (hb hbytes d44) rfl ?_
    exact Steps.refl _)
  exact ⟨T9, some (.int (Int32.ofNat len)), _, _, _, X9, by simp, rfl, rfl, (fun h => by cases h), ⟨rfl, B9, p9.from hh0, f9⟩, fun fs hl => c11.trans (X9.ireturnOut hexec hret rfl (Or.inl rfl) (hb hbytes d46) hl)⟩
end Cmp5
namespace Cmp3
def yN : MethodName := ⟨"java/lang/StringUTF16", "compress", "([CII)[B"⟩
abbrev yB : ByteArray := jdk_52_method_16_code
theorem d0 : decode yB 0 = .ok (.iload_n 2, 1) := by decide +kernel
theorem d1 : decode yB 1 = .ok (.newarray .byte, 2) := by decide +kernel
theorem d3 : decode yB 3 = .ok (.astore_n 3, 1) := by decide +kernel
theorem d4 : decode yB 4 = .ok (.aload_n 0, 1) := by decide +kernel
theorem d5 : decode yB 5 = .ok (.iload_n 1, 1) := by decide +kernel
theorem d6 : decode yB 6 = .ok (.aload_n 3, 1) := by decide +kernel
theorem d7 : decode yB 7 = .ok (.iconst 0, 1) := by decide +kernel
theorem d8 : decode yB 8 = .ok (.iload_n 2, 1) := by decide +kernel
theorem d9 : decode yB 9 = .ok (.invokestatic 115, 3) := by decide +kernel
theorem d12 : decode yB 12 = .ok (.istore 4, 2) := by decide +kernel
theorem d14 : decode yB 14 = .ok (.iload 4, 2) := by decide +kernel
theorem d16 : decode yB 16 = .ok (.iload_n 2, 1) := by decide +kernel
theorem d17 : decode yB 17 = .ok (.if_icmp (.eq) 40, 3) := by decide +kernel
theorem d57 : decode yB 57 = .ok (.aload_n 3, 1) := by decide +kernel
theorem d58 : decode yB 58 = .ok (.areturn, 1) := by decide +kernel
def site : List Cond := [.arrayClass .byte, Cmp5.tab] ++ staticW U16 115 Cmp5.yN
def tab : Cond := tabOf yN yB 6 (some (.array .byte)) site
def P (b : Addr) (A : Cell) (o len : Nat) (args : Array Value) (s : State) : Prop := args = #[.ref b, .int (Int32.ofNat o), .int (Int32.ofNat len)] ∧ Ch b A s ∧ o + len ≤ A.slots.size ∧ len ≤ 536870912 ∧ ∀ i, i < len → ¬ 255 < cv A (o + i)
def E (b : Addr) (A : Cell) (o len : Nat) (r : Option Value) (s u : State) : Prop := NewArr .byte "[B" len (fun j => .int (lo8 (cv A (o + j)))) r s u ∧ u.heap.size = s.heap.size + 1
/-- no char of the range above 255: a new byte[] of their low bytes -/
theorem law (l : Launch) (b : Addr) (A : Cell) (o len : Nat) : Law l yN 3 3 1 18 yB 6 (some (.array .byte)) site (P b A o len) (E b A o len) [] 1 len := by
  refine Law.of_walk (plainFor_of_name (by decide +kernel)) (by decide +kernel) (by decide +kernel) (by decide) (fun _ _ h => by rw [h.1]; rfl) (fun _ U U' hal hh h => ⟨h.1, h.2.1.mv hal hh, h.2.2⟩) (fun r U U' V V' h1 hal h2 h => ⟨NewArr.mv r U U' V V' h1 hal h2 h.1, by rw [h1, h2]; exact h.2⟩) ?_
  intro p e s m args below meth c s₁ X0 hexec hbytes hml hret hlk hnm hown hh0 W hP
  obtain ⟨rfl, hA, l1, l2, hp⟩ := hP
  have a31 := hA.1.2.2.2
  have c1 : Steps p.tables e below (s₁.setTop (entryFrame m #[.ref b, .int (Int32.ofNat o), .int (Int32.ofNat len)] 6)) (s₁.setTop (mkF m 0 #[.val (.ref b), .val (.int (Int32.ofNat o)), .val (.int (Int32.ofNat len)), .unset, .unset, .unset] [])) := entry rfl
  have c2 : Steps p.tables e below (s₁.setTop (entryFrame m #[.ref b, .int (Int32.ofNat o), .int (Int32.ofNat len)] 6)) (s₁.setTop (mkF m 1 #[.val (.ref b), .val (.int (Int32.ofNat o)), .val (.int (Int32.ofNat len)), .unset, .unset, .unset] [.int (Int32.ofNat len)])) := c1.trans (by
    refine XS.iloadN X0.here hexec rfl (hb hbytes d0) rfl ?_
    exact Steps.refl _)
  obtain ⟨T3, B3, X3, ba3, bs3, bv3, bh3, bf3, st3⟩ := X0.anew hexec (atype := .byte) (wk W (.arrayClass .byte)) rfl (by show len * 1 ≤ _; omega) (by omega) (g := (mkF m 1 #[.val (.ref b), .val (.int (Int32.ofNat o)), .val (.int (Int32.ofNat len)), .unset, .unset, .unset] [.int (Int32.ofNat len)])) rfl (hb hbytes d1) (rest := []) rfl (Nat.le_refl _) (by show 0 + len ≤ len; omega)
  rw [hh0] at ba3 st3
  have kp3 : XT.Kept s T3 := (XT.Kept.of_eq hh0).push bh3
  have hA3 := hA.keep X3.warmed.alike (kp3 _ _ hA.1.1)
  have hne : b ≠ s.heap.size := hA.1.ne
  have c4 : Steps p.tables e below (s₁.setTop (entryFrame m #[.ref b, .int (Int32.ofNat o), .int (Int32.ofNat len)] 6)) (T3.setTop (mkF m 3 #[.val (.ref b), .val (.int (Int32.ofNat o)), .val (.int (Int32.ofNat len)), .unset, .unset, .unset] [.ref s.heap.size])) := c2.trans (st3 _ (Steps.refl _))
  have c5 : Steps p.tables e below (s₁.setTop (entryFrame m #[.ref b, .int (Int32.ofNat o), .int (Int32.ofNat len)] 6)) (T3.setTop (mkF m 9 #[.val (.ref b), .val (.int (Int32.ofNat o)), .val (.int (Int32.ofNat len)), .val (.ref s.heap.size), .unset, .unset] [.int (Int32.ofNat len), .int 0, .ref s.heap.size, .int (Int32.ofNat o), .ref b])) := c4.trans (by
    refine XS.astoreN X3.here hexec rfl (hb hbytes d3) rfl rfl rfl ?_
    refine XS.aloadN X3.here hexec rfl (hb hbytes d4) rfl rfl ?_
    refine XS.iloadN X3.here hexec rfl (hb hbytes d5) rfl ?_
    refine XS.aloadN X3.here hexec rfl (hb hbytes d6) rfl rfl ?_
    refine iconstV X3.here hexec rfl 0 (hb hbytes d7) (by decide) ?_
    refine XS.iloadN X3.here hexec rfl (hb hbytes d8) rfl ?_
    exact Steps.refl _)
  obtain ⟨v6, T6, X6, E6, g6⟩ := X3.callS hexec (Cmp5.law l b A s.heap.size B3 o 0 len) hown (wks W (staticW U16 115 Cmp5.yN)) (wk W Cmp5.tab) (W := 0) (Nat.le_of_ble_eq_true rfl) (Nat.le_of_ble_eq_true rfl) (Nat.le_refl _) (by show 0 + len + 0 ≤ len; omega) (g := (mkF m 9 #[.val (.ref b), .val (.int (Int32.ofNat o)), .val (.int (Int32.ofNat len)), .val (.ref s.heap.size), .unset, .unset] [.int (Int32.ofNat len), .int (Int32.ofNat 0), .ref s.heap.size, .int (Int32.ofNat o), .ref b])) rfl (by rw [hml]; rfl) c5 (argsL := [.ref b, .int (Int32.ofNat o), .ref s.heap.size, .int (Int32.ofNat 0), .int (Int32.ofNat len)]) (rest := []) rfl rfl (by show 2 * 0 + 0 ≤ _; decide) (hb hbytes d9) (⟨rfl, hA3, ba3, hne, l1, by rw [bs3]; simp, hp⟩)
  obtain ⟨rfl, B6, p6, f6⟩ := E6
  have c7 : Steps p.tables e below (s₁.setTop (entryFrame m #[.ref b, .int (Int32.ofNat o), .int (Int32.ofNat len)] 6)) (T6.setTop (mkF m 12 #[.val (.ref b), .val (.int (Int32.ofNat o)), .val (.int (Int32.ofNat len)), .val (.ref s.heap.size), .unset, .unset] [.int (Int32.ofNat len)])) := g6
  have c8 : Steps p.tables e below (s₁.setTop (entryFrame m #[.ref b, .int (Int32.ofNat o), .int (Int32.ofNat len)] 6)) (T6.setTop (mkF m 58 #[.val (.ref b), .val (.int (Int32.ofNat o)), .val (.int (Int32.ofNat len)), .val (.ref s.heap.size), .val (.int (Int32.ofNat len)), .unset] [.ref s.heap.size])) := c7.trans (by
    refine XS.istore X6.here hexec rfl (hb hbytes d12) rfl rfl ?_
    refine XS.iload X6.here hexec rfl (hb hbytes d14) rfl ?_
    refine XS.iloadN X6.here hexec rfl (hb hbytes d16) rfl ?_
    refine XS.icmpYes X6.here hexec rfl (pc0 := 17) rfl (hb hbytes d17) rfl (ii_eq_t rfl) (by decide) rfl ?_
    refine XS.aloadN X6.here hexec rfl (hb hbytes d57) rfl rfl ?_
    exact Steps.refl _)
  have X8 := X6.wide (L' := []) (cells' := 1) (slots' := len) (fun x hx hlt => by
    simp only [List.nil_append, copyLocs, List.mem_map, List.mem_range] at hx
    obtain ⟨i, -, rfl⟩ := hx
    exact absurd hlt (Nat.lt_irrefl _)) (Nat.le_refl _) (by omega)
  exact ⟨T6, some (.ref s.heap.size), _, _, _, X8, rfl, rfl, rfl, (fun h => by cases h), ⟨⟨rfl, B6, ba3.like (X3.warmed.alike.symm.trans X6.warmed.alike) p6.1 f6.1 f6.2.1 f6.2.2.1, f6.2.1.trans bv3, by rw [X6.warmed.alike.findClass, f6.1]; exact bf3, by rw [f6.2.2.1, bs3]; simp, fun j hj => by rw [f6.2.2.2 j, if_pos (by omega)]; rfl, kp3.put p6 (Nat.le_refl _)⟩, by rw [p6.2.2, bh3, hh0]; simp⟩, fun fs hl => c8.trans (X8.areturnOut hexec rfl hret rfl (hb hbytes d58) hl)⟩
end Cmp3
namespace CodL
def yN : MethodName := ⟨"java/lang/StringUTF16", "coderFromArrayLen", "([BI)B"⟩
abbrev yB : ByteArray := jdk_52_method_15_code
theorem d0 : decode yB 0 = .ok (.iload_n 1, 1) := by decide +kernel
theorem d1 : decode yB 1 = .ok (.aload_n 0, 1) := by decide +kernel
theorem d2 : decode yB 2 = .ok (.arraylength, 1) := by decide +kernel
theorem d3 : decode yB 3 = .ok (.isub, 1) := by decide +kernel
theorem d4 : decode yB 4 = .ok (.bipush 31, 2) := by decide +kernel
theorem d6 : decode yB 6 = .ok (.iushr, 1) := by decide +kernel
theorem d7 : decode yB 7 = .ok (.i2b, 1) := by decide +kernel
theorem d8 : decode yB 8 = .ok (.ireturn, 1) := by decide +kernel
def site : List Cond := []
def tab : Cond := tabOf yN yB 2 (some .byte) site
def P (d : Addr) (B : Cell) (args : Array Value) (s : State) : Prop := args = #[.ref d, .int (Int32.ofNat B.slots.size)] ∧ Arr .byte d B s
def E (r : Option Value) (s u : State) : Prop := XT.PureE (some (.int 0)) r s u
/-- an array as long as the number of chars: LATIN1 -/
theorem law (l : Launch) (d : Addr) (B : Cell) : Law l yN 2 2 0 0 yB 2 (some .byte) site (P d B) E [] 0 0 := by
  refine Law.of_walk (plainFor_of_name (by decide +kernel)) (by decide +kernel) (by decide +kernel) (by decide) (fun _ _ h => by rw [h.1]; rfl) (fun _ U U' hal hh h => ⟨h.1, h.2.mv hal hh⟩) (fun r U U' V V' h1 hal h2 h => XT.PureE.mv r U U' V V' h1 hal h2 h) ?_
  intro p e s m args below meth c s₁ X0 hexec hbytes hml hret hlk hnm hown hh0 W hP
  obtain ⟨rfl, hB⟩ := hP
  have hB0 := hB.mv X0.warmed.alike hh0
  have c1 : Steps p.tables e below (s₁.setTop (entryFrame m #[.ref d, .int (Int32.ofNat B.slots.size)] 2)) (s₁.setTop (mkF m 0 #[.val (.ref d), .val (.int (Int32.ofNat B.slots.size))] [])) := entry rfl
  have c2 : Steps p.tables e below (s₁.setTop (entryFrame m #[.ref d, .int (Int32.ofNat B.slots.size)] 2)) (s₁.setTop (mkF m 2 #[.val (.ref d), .val (.int (Int32.ofNat B.slots.size))] [.ref d, .int (Int32.ofNat B.slots.size)])) := c1.trans (by
    refine XS.iloadN X0.here hexec rfl (hb hbytes d0) rfl ?_
    refine XS.aloadN X0.here hexec rfl (hb hbytes d1) rfl rfl ?_
    exact Steps.refl _)
  have c3 : Steps p.tables e below (s₁.setTop (entryFrame m #[.ref d, .int (Int32.ofNat B.slots.size)] 2)) (s₁.setTop (mkF m 8 #[.val (.ref d), .val (.int (Int32.ofNat B.slots.size))] [.int (lo8 (ushr (Int32.ofNat B.slots.size - Int32.ofNat B.slots.size) 31))])) := c2.trans (by
    refine X0.alen hexec hB0 rfl rfl (hb hbytes d2) ?_
    refine XS.isub X0.here hexec rfl (hb hbytes d3) rfl ?_
    refine bipushV X0.here hexec rfl 31 (hb hbytes d4) (by decide) ?_
    refine iushr X0.here hexec rfl (hb hbytes d6) rfl ?_
    refine i2b X0.here hexec rfl (hb hbytes d7) rfl ?_
    exact Steps.refl _)
  have e0 : lo8 (ushr (Int32.ofNat B.slots.size - Int32.ofNat B.slots.size) 31) = 0 := by rw [Int32.sub_self]; decide
  rw [e0] at c3
  exact ⟨s₁, some (.int 0), _, _, _, X0, rfl, rfl, rfl, (fun h => by cases h), ⟨rfl, hh0⟩, fun fs hl => c3.trans (X0.ireturnOut hexec hret rfl (Or.inr (Or.inr (Or.inl rfl))) (hb hbytes d8) hl)⟩
end CodL
/-- the String at a is Latin-1 over a new byte[] (the heap's one new cell): the low bytes of the len chars of A from o on; every cell but a is kept -/
def Got (a : Addr) (D : Cell) (fV fC : Field) (A : Cell) (o len : Nat) (r : Option Value) (s u : State) : Prop := r = none ∧ ∃ D' V : Cell, Blank "java/lang/String" a D' u ∧ Same D D' [fV.slot, fC.slot] ∧ D'.slots[fV.slot]? = some (.ref s.heap.size) ∧ D'.slots[fC.slot]? = some (.int 0) ∧ Arr .byte s.heap.size V u ∧ V.vm = .none ∧ u.vm.findClass "[B" = some V.cls ∧ V.slots.size = len ∧ (∀ j, j < len → V.slots[j]? = some (.int (lo8 (cv A (o + j))))) ∧ (∀ (y : Addr) (c : Cell), y ≠ a → s.heap[y]? = some c → u.heap[y]? = some c) ∧ u.heap.size = s.heap.size + 1
theorem Got.mv {a : Addr} {D A : Cell} {fV fC : Field} {o len : Nat} : ∀ r (U U' V V' : State), U'.heap = U.heap → V.vm.Alike V'.vm → V'.heap = V.heap → Got a D fV fC A o len r U V → Got a D fV fC A o len r U' V' :=
  fun r U U' V V' h1 hal h2 ⟨e0, D', X, a1, a2, a3, a4, a5, a6, a7, a8, a9, a10, a11⟩ => ⟨e0, D', X, a1.mv hal h2, a2, by rw [h1]; exact a3, a4, by rw [h1]; exact a5.mv hal h2, a6, by rw [hal.findClass]; exact a7, a8, a9, by rw [h1, h2]; exact a10, by rw [h1, h2]; exact a11⟩
namespace New4
def yN : MethodName := ⟨"java/lang/String", "<init>", "([CIILjava/lang/Void;)V"⟩
abbrev yB : ByteArray := jdk_42_method_149_code
theorem d0 : decode yB 0 = .ok (.aload_n 0, 1) := by decide +kernel
theorem d1 : decode yB 1 = .ok (.invokespecial 1, 3) := by decide +kernel
theorem d4 : decode yB 4 = .ok (.iload_n 3, 1) := by decide +kernel
theorem d5 : decode yB 5 = .ok (.ifCond (.ne) 22, 3) := by decide +kernel
theorem d27 : decode yB 27 = .ok (.getstatic 38, 3) := by decide +kernel
theorem d30 : decode yB 30 = .ok (.ifCond (.eq) 28, 3) := by decide +kernel
theorem d33 : decode yB 33 = .ok (.aload_n 1, 1) := by decide +kernel
theorem d34 : decode yB 34 = .ok (.iload_n 2, 1) := by decide +kernel
theorem d35 : decode yB 35 = .ok (.iload_n 3, 1) := by decide +kernel
theorem d36 : decode yB 36 = .ok (.invokestatic 177, 3) := by decide +kernel
theorem d39 : decode yB 39 = .ok (.astore 5, 2) := by decide +kernel
theorem d41 : decode yB 41 = .ok (.aload_n 0, 1) := by decide +kernel
theorem d42 : decode yB 42 = .ok (.aload 5, 2) := by decide +kernel
theorem d44 : decode yB 44 = .ok (.iload_n 3, 1) := by decide +kernel
theorem d45 : decode yB 45 = .ok (.invokestatic 47, 3) := by decide +kernel
theorem d48 : decode yB 48 = .ok (.putfield 15, 3) := by decide +kernel
theorem d51 : decode yB 51 = .ok (.aload_n 0, 1) := by decide +kernel
theorem d52 : decode yB 52 = .ok (.aload 5, 2) := by decide +kernel
theorem d54 : decode yB 54 = .ok (.putfield 9, 3) := by decide +kernel
theorem d57 : decode yB 57 = .ok (.return_, 1) := by decide +kernel
def site : List Cond := [.fieldLink "java/lang/String" 38 "java/lang/String" "COMPACT_STRINGS" "Z", Cmp3.tab, CodL.tab, .laysFinal "java/lang/String" "java/lang/String" "value" "[B", .fieldLink "java/lang/String" 9 "java/lang/String" "value" "[B", .laysFinal "java/lang/String" "java/lang/String" "coder" "B", .fieldLink "java/lang/String" 15 "java/lang/String" "coder" "B"] ++ objW "java/lang/String" 1 ++ staticW "java/lang/String" 177 Cmp3.yN ++ staticW "java/lang/String" 47 CodL.yN
def tab : Cond := tabOf yN yB 6 none site
def P (a : Addr) (D : Cell) (fV fC : Field) (b : Addr) (A : Cell) (z : Int32) (o len : Nat) (args : Array Value) (s : State) : Prop := args = #[.ref a, .ref b, .int (Int32.ofNat o), .int (Int32.ofNat len), .null] ∧ Blank "java/lang/String" a D s ∧ Found "java/lang/String" "value" "[B" fV s ∧ Found "java/lang/String" "coder" "B" fC s ∧ Ch b A s ∧ StaticIs s "java/lang/String" "COMPACT_STRINGS" "Z" (.int z) ∧ ¬ z = 0 ∧ 0 < len ∧ o + len ≤ A.slots.size ∧ len ≤ 536870912 ∧ ∀ i, i < len → ¬ 255 < cv A (o + i)
def E (a : Addr) (D : Cell) (fV fC : Field) (A : Cell) (o len : Nat) (r : Option Value) (s u : State) : Prop := Got a D fV fC A o len r s u
/-- len > 0, no char of the range above 255: a Latin-1 String of their low bytes -/
theorem law (l : Launch) (a : Addr) (D : Cell) (fV fC : Field) (b : Addr) (A : Cell) (z : Int32) (o len : Nat) : Law l yN 5 4 2 35 yB 6 none site (P a D fV fC b A z o len) (E a D fV fC A o len) [⟨a, fC.slot⟩, ⟨a, fV.slot⟩] 1 len := by
  refine Law.of_walk (plainFor_of_name (by decide +kernel)) (by decide +kernel) (by decide +kernel) (by decide) (fun _ _ h => by rw [h.1]; rfl) (fun _ U U' hal hh h => ⟨h.1, h.2.1.mv hal hh, h.2.2.1.al hal, h.2.2.2.1.al hal, h.2.2.2.2.1.mv hal hh, h.2.2.2.2.2.1.there hal hh, h.2.2.2.2.2.2⟩) (fun r U U' V V' h1 hal h2 h => Got.mv r U U' V V' h1 hal h2 h) ?_
  intro p e s m args below meth c s₁ X0 hexec hbytes hml hret hlk hnm hown hh0 W hP
  obtain ⟨rfl, hB, f1, f2, hA, s1, hz, l0, l1, l2, hp⟩ := hP
  have a31 := hA.1.2.2.2
  have c1 : Steps p.tables e below (s₁.setTop (entryFrame m #[.ref a, .ref b, .int (Int32.ofNat o), .int (Int32.ofNat len), .null] 6)) (s₁.setTop (mkF m 0 #[.val (.ref a), .val (.ref b), .val (.int (Int32.ofNat o)), .val (.int (Int32.ofNat len)), .val .null, .unset] [])) := entry rfl
  have c2 : Steps p.tables e below (s₁.setTop (entryFrame m #[.ref a, .ref b, .int (Int32.ofNat o), .int (Int32.ofNat len), .null] 6)) (s₁.setTop (mkF m 1 #[.val (.ref a), .val (.ref b), .val (.int (Int32.ofNat o)), .val (.int (Int32.ofNat len)), .val .null, .unset] [.ref a])) := c1.trans (by
    refine XS.aloadN X0.here hexec rfl (hb hbytes d0) rfl rfl ?_
    exact Steps.refl _)
  obtain ⟨T3, X3, q3, st3⟩ := X0.oinit hexec hown (wks W (objW "java/lang/String" 1)) (g := (mkF m 1 #[.val (.ref a), .val (.ref b), .val (.int (Int32.ofNat o)), .val (.int (Int32.ofNat len)), .val .null, .unset] [.ref a])) rfl (by rw [hml]; rfl) (rest := []) rfl (hb hbytes d1) (W := 0) (by show 2 * 0 + 0 ≤ _; decide) (Nat.le_of_ble_eq_true rfl) (Nat.le_of_ble_eq_true rfl)
  have hh3 := q3.trans hh0
  have c4 : Steps p.tables e below (s₁.setTop (entryFrame m #[.ref a, .ref b, .int (Int32.ofNat o), .int (Int32.ofNat len), .null] 6)) (T3.setTop (mkF m 27 #[.val (.ref a), .val (.ref b), .val (.int (Int32.ofNat o)), .val (.int (Int32.ofNat len)), .val .null, .unset] [])) := (c2.trans (st3 _ (Steps.refl _))).trans (by
    refine XS.iloadN X3.here hexec rfl (hb hbytes d4) rfl ?_
    refine XS.ifYes X3.here hexec rfl (pc0 := 5) rfl (hb hbytes d5) rfl (i0_ne_t (nz32 (by omega) l0)) (by decide) rfl ?_
    exact Steps.refl _)
  obtain ⟨T5, X5, q5, st5⟩ := X3.sget hexec hown (wk W (.fieldLink "java/lang/String" 38 "java/lang/String" "COMPACT_STRINGS" "Z")) s1 (fun _ _ h => by rw [hh3]; exact h) (g := (mkF m 27 #[.val (.ref a), .val (.ref b), .val (.int (Int32.ofNat o)), .val (.int (Int32.ofNat len)), .val .null, .unset] [])) rfl (hb hbytes d27)
  have hh5 := q5.trans hh3
  have c6 : Steps p.tables e below (s₁.setTop (entryFrame m #[.ref a, .ref b, .int (Int32.ofNat o), .int (Int32.ofNat len), .null] 6)) (T5.setTop (mkF m 30 #[.val (.ref a), .val (.ref b), .val (.int (Int32.ofNat o)), .val (.int (Int32.ofNat len)), .val .null, .unset] [.int z])) := c4.trans (st5 _ (Steps.refl _))
  have c7 : Steps p.tables e below (s₁.setTop (entryFrame m #[.ref a, .ref b, .int (Int32.ofNat o), .int (Int32.ofNat len), .null] 6)) (T5.setTop (mkF m 36 #[.val (.ref a), .val (.ref b), .val (.int (Int32.ofNat o)), .val (.int (Int32.ofNat len)), .val .null, .unset] [.int (Int32.ofNat len), .int (Int32.ofNat o), .ref b])) := c6.trans (by
    refine XS.ifNo X5.here hexec rfl (hb hbytes d30) rfl (i0_eq_f hz) ?_
    refine XS.aloadN X5.here hexec rfl (hb hbytes d33) rfl rfl ?_
    refine XS.iloadN X5.here hexec rfl (hb hbytes d34) rfl ?_
    refine XS.iloadN X5.here hexec rfl (hb hbytes d35) rfl ?_
    exact Steps.refl _)
  obtain ⟨v8, T8, X8, E8, g8⟩ := X5.callS hexec (Cmp3.law l b A o len) hown (wks W (staticW "java/lang/String" 177 Cmp3.yN)) (wk W Cmp3.tab) (W := 0) (Nat.le_of_ble_eq_true rfl) (Nat.le_of_ble_eq_true rfl) (Nat.le_refl _) (by show 0 + len ≤ len; omega) (g := (mkF m 36 #[.val (.ref a), .val (.ref b), .val (.int (Int32.ofNat o)), .val (.int (Int32.ofNat len)), .val .null, .unset] [.int (Int32.ofNat len), .int (Int32.ofNat o), .ref b])) rfl (by rw [hml]; rfl) c7 (argsL := [.ref b, .int (Int32.ofNat o), .int (Int32.ofNat len)]) (rest := []) rfl rfl (by show 2 * 0 + 0 ≤ _; decide) (hb hbytes d36) (⟨rfl, hA.mv X5.warmed.alike hh5, l1, l2, hp⟩)
  obtain ⟨e8, z8⟩ := E8
  obtain ⟨rfl, N, n1, n2, n3, n4, n5, n6⟩ := NewArr.mv _ T5 s _ _ hh5.symm (Vm.Alike.refl _) rfl e8
  rw [hh5] at z8
  have hB1 := hB.keep X8.warmed.alike (n6 _ _ hB.1)
  have hne : s.heap.size ≠ a := (Nat.ne_of_lt (Array.getElem?_eq_some_iff.mp hB.1).1).symm
  have c9 : Steps p.tables e below (s₁.setTop (entryFrame m #[.ref a, .ref b, .int (Int32.ofNat o), .int (Int32.ofNat len), .null] 6)) (T8.setTop (mkF m 39 #[.val (.ref a), .val (.ref b), .val (.int (Int32.ofNat o)), .val (.int (Int32.ofNat len)), .val .null, .unset] [.ref s.heap.size])) := g8
  have c10 : Steps p.tables e below (s₁.setTop (entryFrame m #[.ref a, .ref b, .int (Int32.ofNat o), .int (Int32.ofNat len), .null] 6)) (T8.setTop (mkF m 45 #[.val (.ref a), .val (.ref b), .val (.int (Int32.ofNat o)), .val (.int (Int32.ofNat len)), .val .null, .val (.ref s.heap.size)] [.int (Int32.ofNat N.slots.size), .ref s.heap.size, .ref a])) := by
    have hc : Steps p.tables e below (s₁.setTop (entryFrame m #[.ref a, .ref b, .int (Int32.ofNat o), .int (Int32.ofNat len), .null] 6)) (T8.setTop (mkF m 45 #[.val (.ref a), .val (.ref b), .val (.int (Int32.ofNat o)), .val (.int (Int32.ofNat len)), .val .null, .val (.ref s.heap.size)] [.int (Int32.ofNat len), .ref s.heap.size, .ref a])) := c9.trans (by
      refine XS.astore X8.here hexec rfl (hb hbytes d39) rfl rfl rfl ?_
      refine XS.aloadN X8.here hexec rfl (hb hbytes d41) rfl rfl ?_
      refine XS.aload X8.here hexec rfl (hb hbytes d42) rfl rfl ?_
      refine XS.iloadN X8.here hexec rfl (hb hbytes d44) rfl ?_
      exact Steps.refl _)
    rw [n4]; exact hc
  obtain ⟨v11, T11, X11, E11, g11⟩ := X8.callS hexec (CodL.law l s.heap.size N) hown (wks W (staticW "java/lang/String" 47 CodL.yN)) (wk W CodL.tab) (W := 1) (Nat.le_of_ble_eq_true rfl) (Nat.le_of_ble_eq_true rfl) (Nat.le_refl _) (by show 0 + len + 0 ≤ len; omega) (g := (mkF m 45 #[.val (.ref a), .val (.ref b), .val (.int (Int32.ofNat o)), .val (.int (Int32.ofNat len)), .val .null, .val (.ref s.heap.size)] [.int (Int32.ofNat N.slots.size), .ref s.heap.size, .ref a])) rfl (by rw [hml]; rfl) c10 (argsL := [.ref s.heap.size, .int (Int32.ofNat N.slots.size)]) (rest := [.ref a]) rfl rfl (by show 2 * 0 + (1 + 0) ≤ _; decide) (hb hbytes d45) (⟨rfl, n1⟩)
  obtain ⟨rfl, q11⟩ := E11
  have hB11 := hB1.mv (X8.warmed.alike.symm.trans X11.warmed.alike) q11
  have c12 : Steps p.tables e below (s₁.setTop (entryFrame m #[.ref a, .ref b, .int (Int32.ofNat o), .int (Int32.ofNat len), .null] 6)) (T11.setTop (mkF m 48 #[.val (.ref a), .val (.ref b), .val (.int (Int32.ofNat o)), .val (.int (Int32.ofNat len)), .val .null, .val (.ref s.heap.size)] [.int 0, .ref a])) := g11
  obtain ⟨T13, X13, p13, bl13, sl13, st13⟩ := X11.finit hexec hown (wk W (.fieldLink "java/lang/String" 15 "java/lang/String" "coder" "B")) (Or.inr ⟨_, (wk W (.laysFinal "java/lang/String" "java/lang/String" "coder" "B"))⟩) (Or.inl ⟨rfl, hnm⟩) f2 (Or.inl rfl) hB11 (t := .byte) (by decide +kernel) rfl (g := (mkF m 48 #[.val (.ref a), .val (.ref b), .val (.int (Int32.ofNat o)), .val (.int (Int32.ofNat len)), .val .null, .val (.ref s.heap.size)] [.int 0, .ref a])) rfl (rest := []) rfl (hb hbytes d48)
  have c14 : Steps p.tables e below (s₁.setTop (entryFrame m #[.ref a, .ref b, .int (Int32.ofNat o), .int (Int32.ofNat len), .null] 6)) (T13.setTop (mkF m 54 #[.val (.ref a), .val (.ref b), .val (.int (Int32.ofNat o)), .val (.int (Int32.ofNat len)), .val .null, .val (.ref s.heap.size)] [.ref s.heap.size, .ref a])) := (c12.trans (st13 _ (Steps.refl _))).trans (by
    refine XS.aloadN X13.here hexec rfl (hb hbytes d51) rfl rfl ?_
    refine XS.aload X13.here hexec rfl (hb hbytes d52) rfl rfl ?_
    exact Steps.refl _)
  obtain ⟨T15, X15, p15, bl15, sl15, st15⟩ := X13.finit hexec hown (wk W (.fieldLink "java/lang/String" 9 "java/lang/String" "value" "[B")) (Or.inr ⟨_, (wk W (.laysFinal "java/lang/String" "java/lang/String" "value" "[B"))⟩) (Or.inl ⟨rfl, hnm⟩) f1 (Or.inl rfl) bl13 (t := (.array .byte)) (by decide +kernel) rfl (g := (mkF m 54 #[.val (.ref a), .val (.ref b), .val (.int (Int32.ofNat o)), .val (.int (Int32.ofNat len)), .val .null, .val (.ref s.heap.size)] [.ref s.heap.size, .ref a])) rfl (rest := []) rfl (hb hbytes d54)
  have c16 : Steps p.tables e below (s₁.setTop (entryFrame m #[.ref a, .ref b, .int (Int32.ofNat o), .int (Int32.ofNat len), .null] 6)) (T15.setTop (mkF m 57 #[.val (.ref a), .val (.ref b), .val (.int (Int32.ofNat o)), .val (.int (Int32.ofNat len)), .val .null, .val (.ref s.heap.size)] [])) := c14.trans (st15 _ (Steps.refl _))
  have ap := apart (Or.inr ⟨_, (wk W (.laysFinal "java/lang/String" "java/lang/String" "value" "[B"))⟩) (Or.inr ⟨_, (wk W (.laysFinal "java/lang/String" "java/lang/String" "coder" "B"))⟩) f1 f2 (t₁ := .array .byte) (t₂ := .byte) (by decide +kernel) (by decide +kernel) (by decide)
  have al := X8.warmed.alike.symm.trans X15.warmed.alike
  have n7 : T11.heap[s.heap.size]? = some N := by rw [q11]; exact n1.1
  exact ⟨T15, none, _, _, _, X15, by simp, rfl, by omega, (fun _ => rfl), ⟨rfl, _, N, bl15, ((Same.refl D _).set _ (by simp)).set _ (by simp), sl15, (Cell.slots_setSlot_ne _ ap).trans sl13, n1.keep al (p15.other hne (p13.other hne n7)), n2, by rw [al.findClass]; exact n3, n4, n5, fun y c h1 h2 => p15.other h1 (p13.other h1 (by rw [q11]; exact n6 y c h2)), by rw [p15.2.2, p13.2.2, q11]; exact z8⟩, fun fs hl => c16.trans (X15.returnOut hexec hret (hb hbytes d57) hl)⟩
end New4
namespace New1
def yN : MethodName := ⟨"java/lang/String", "<init>", "([C)V"⟩
abbrev yB : ByteArray := jdk_42_method_3_code
theorem d0 : decode yB 0 = .ok (.aload_n 0, 1) := by decide +kernel
theorem d1 : decode yB 1 = .ok (.aload_n 1, 1) := by decide +kernel
theorem d2 : decode yB 2 = .ok (.iconst 0, 1) := by decide +kernel
theorem d3 : decode yB 3 = .ok (.aload_n 1, 1) := by decide +kernel
theorem d4 : decode yB 4 = .ok (.arraylength, 1) := by decide +kernel
theorem d5 : decode yB 5 = .ok (.aconst_null, 1) := by decide +kernel
theorem d6 : decode yB 6 = .ok (.invokespecial 27, 3) := by decide +kernel
theorem d9 : decode yB 9 = .ok (.return_, 1) := by decide +kernel
def site : List Cond := [New4.tab] ++ initW "java/lang/String" 27 New4.yN
def tab : Cond := tabOf yN yB 2 none site
def P (a : Addr) (D : Cell) (fV fC : Field) (b : Addr) (A : Cell) (z : Int32) (args : Array Value) (s : State) : Prop := args = #[.ref a, .ref b] ∧ Blank "java/lang/String" a D s ∧ Found "java/lang/String" "value" "[B" fV s ∧ Found "java/lang/String" "coder" "B" fC s ∧ Ch b A s ∧ StaticIs s "java/lang/String" "COMPACT_STRINGS" "Z" (.int z) ∧ ¬ z = 0 ∧ 0 < A.slots.size ∧ A.slots.size ≤ 536870912 ∧ ∀ i, i < A.slots.size → ¬ 255 < cv A i
def E (a : Addr) (D : Cell) (fV fC : Field) (A : Cell) (r : Option Value) (s u : State) : Prop := Got a D fV fC A 0 A.slots.size r s u
/-- new String(chars), not empty, no char above 255: a Latin-1 String of their low bytes -/
theorem law (l : Launch) (a : Addr) (D : Cell) (fV fC : Field) (b : Addr) (A : Cell) (z : Int32) : Law l yN 2 1 3 52 yB 2 none site (P a D fV fC b A z) (E a D fV fC A) [⟨a, fC.slot⟩, ⟨a, fV.slot⟩] 1 A.slots.size := by
  refine Law.of_walk (plainFor_of_name (by decide +kernel)) (by decide +kernel) (by decide +kernel) (by decide) (fun _ _ h => by rw [h.1]; rfl) (fun _ U U' hal hh h => ⟨h.1, h.2.1.mv hal hh, h.2.2.1.al hal, h.2.2.2.1.al hal, h.2.2.2.2.1.mv hal hh, h.2.2.2.2.2.1.there hal hh, h.2.2.2.2.2.2⟩) (fun r U U' V V' h1 hal h2 h => Got.mv r U U' V V' h1 hal h2 h) ?_
  intro p e s m args below meth c s₁ X0 hexec hbytes hml hret hlk hnm hown hh0 W hP
  obtain ⟨rfl, hB, f1, f2, hA, s1, hz, l0, l2, hp⟩ := hP
  have c1 : Steps p.tables e below (s₁.setTop (entryFrame m #[.ref a, .ref b] 2)) (s₁.setTop (mkF m 0 #[.val (.ref a), .val (.ref b)] [])) := entry rfl
  have c2 : Steps p.tables e below (s₁.setTop (entryFrame m #[.ref a, .ref b] 2)) (s₁.setTop (mkF m 6 #[.val (.ref a), .val (.ref b)] [.null, .int (Int32.ofNat A.slots.size), .int 0, .ref b, .ref a])) := c1.trans (by
    refine XS.aloadN X0.here hexec rfl (hb hbytes d0) rfl rfl ?_
    refine XS.aloadN X0.here hexec rfl (hb hbytes d1) rfl rfl ?_
    refine iconstV X0.here hexec rfl 0 (hb hbytes d2) (by decide) ?_
    refine XS.aloadN X0.here hexec rfl (hb hbytes d3) rfl rfl ?_
    refine X0.alen hexec (hA.1.mv X0.warmed.alike hh0) rfl rfl (hb hbytes d4) ?_
    refine XS.aconstNull X0.here hexec rfl (hb hbytes d5) ?_
    exact Steps.refl _)
  obtain ⟨v3, T3, X3, E3, g3⟩ := X0.callN hexec (New4.law l a D fV fC b A z 0 A.slots.size) rfl hown (wks W (initW "java/lang/String" 27 New4.yN)) (W New4.tab (by simp only [site, List.mem_cons, List.mem_append, true_or, or_true])) (W := 0) (Nat.le_of_ble_eq_true rfl) (Nat.le_of_ble_eq_true rfl) (Nat.le_refl _) (by show 0 + A.slots.size ≤ A.slots.size; omega) (g := (mkF m 6 #[.val (.ref a), .val (.ref b)] [.null, .int (Int32.ofNat A.slots.size), .int (Int32.ofNat 0), .ref b, .ref a])) rfl (by rw [hml]; rfl) c2 (argsL := [.ref b, .int (Int32.ofNat 0), .int (Int32.ofNat A.slots.size), .null]) (rest := []) rfl rfl (by show 2 * 0 + 0 ≤ _; decide) (hb hbytes d6) (⟨rfl, hB.mv X0.warmed.alike hh0, f1.al X0.warmed.alike, f2.al X0.warmed.alike, hA.mv X0.warmed.alike hh0, s1.there X0.warmed.alike hh0, hz, l0, by omega, l2, fun i hi => by rw [Nat.zero_add]; exact hp i hi⟩)
  have e0 := Got.mv _ s₁ s _ _ hh0.symm (Vm.Alike.refl _) rfl E3
  obtain rfl := e0.1
  have c4 : Steps p.tables e below (s₁.setTop (entryFrame m #[.ref a, .ref b] 2)) (T3.setTop (mkF m 9 #[.val (.ref a), .val (.ref b)] [])) := g3
  exact ⟨T3, none, _, _, _, X3, by simp, rfl, by omega, (fun _ => rfl), e0, fun fs hl => c4.trans (X3.returnOut hexec hret (hb hbytes d9) hl)⟩
theorem pays {l : Launch} {R : Room} {p : Program} {e : Env} {below : List Frame} {s : State} {sargs : Array Value} {len W : Nat} (a : Addr) (D : Cell) (fV fC : Field) (b : Addr) (A : Cell) (z : Int32) (htab : tab.before sargs s = true) (hfr : 4 ≤ R.frames) (hlo : W + 65 ≤ R.locals) :
    Back l R p e below s sargs yN len W (fun A₁ a₁ => A₁.cells + 1 ≤ R.cells ∧ A₁.slots + A.slots.size ≤ R.slots ∧ P a D fV fC b A z a₁ A₁.U) (fun A₁ _ v₁ B₁ => E a D fV fC A v₁ A₁.U B₁.U ∧ B₁.locs = A₁.locs ++ [⟨a, fC.slot⟩, ⟨a, fV.slot⟩] ∧ B₁.cells = A₁.cells + 1 ∧ B₁.slots = A₁.slots + A.slots.size) :=
  (law l a D fV fC b A z).pays htab hfr (by omega)
end New1
/-- the byte, read back as charAt reads it, is the char -/
theorem lo8_mask {x : Int32} (h0 : ¬ x < 0) (h1 : ¬ 255 < x) : lo8 x &&& 255 = x := by
  have t : ∀ k : Fin 256, lo8 (Int32.ofNat k.val) &&& 255 = Int32.ofNat k.val := by decide +kernel
  rw [Int32.lt_iff_toInt_lt] at h0 h1
  have e0 : (0 : Int32).toInt = 0 := rfl
  have e1 : (255 : Int32).toInt = 255 := rfl
  obtain ⟨k, hk⟩ : ∃ k : Nat, x.toInt = k := ⟨x.toInt.toNat, by omega⟩
  have hx : x = Int32.ofNat k := Int32.toInt_inj.mp (by rw [hk, Int32.toInt_ofNat_small (by omega)])
  rw [hx]
  exact t ⟨k, by omega⟩
end StrChars
namespace StrChars.Road
open Jvm Sem ClassFile Op Lib Jvm.Stand Jvm.Free Jvm.Free.XT
open Jvm.Lib.Cold (StaticIs)
abbrev ST : String := "java/lang/String"
/-- every table word that New1's law asks, flat -/
abbrev words : List Jvm.Cond := [.code New1.yN New1.yB 2 none, .initialized ST, .methodLink ST 27 New4.yN, .instanceMethod New4.yN,
  .code New4.yN New4.yB 6 none, .fieldLink ST 38 ST "COMPACT_STRINGS" "Z", .laysFinal ST ST "value" "[B", .fieldLink ST 9 ST "value" "[B", .laysFinal ST ST "coder" "B", .fieldLink ST 15 ST "coder" "B",
  .methodLink ST 1 Lib.objectInit, .instanceMethod Lib.objectInit, .code Lib.objectInit ⟨#[0xb1]⟩ 1 none, .methodLink ST 177 Cmp3.yN, .static Cmp3.yN, .methodLink ST 47 CodL.yN, .static CodL.yN,
  .code Cmp3.yN Cmp3.yB 6 (some (.array .byte)), .initialized U16, .arrayClass .byte, .methodLink U16 115 Cmp5.yN, .static Cmp5.yN, .code Cmp5.yN Cmp5.yB 7 (some .int), .code CodL.yN CodL.yB 2 (some .byte)]
theorem tab_of {a : Array Value} {s : State} (h : ∀ w ∈ words, w.before a s = true) : New1.tab.before a s = true := by
  have h5 : Cmp5.tab.before a s = true := unparts (wk h (.code Cmp5.yN Cmp5.yB 7 (some .int))) (wks h (.initialized Cmp5.yN.cls :: Cmp5.site))
  have hc : CodL.tab.before a s = true := unparts (wk h (.code CodL.yN CodL.yB 2 (some .byte))) (wks h (.initialized CodL.yN.cls :: CodL.site))
  have q5 : ∀ w ∈ Cmp5.tab :: words, w.before a s = true := fun w hw => (List.mem_cons.mp hw).elim (fun e => e ▸ h5) (h w)
  have h3 : Cmp3.tab.before a s = true := unparts (wk q5 (.code Cmp3.yN Cmp3.yB 6 (some (.array .byte)))) (wks q5 (.initialized Cmp3.yN.cls :: Cmp3.site))
  have q3 : ∀ w ∈ Cmp3.tab :: CodL.tab :: words, w.before a s = true := fun w hw => (List.mem_cons.mp hw).elim (fun e => e ▸ h3) fun hw => (List.mem_cons.mp hw).elim (fun e => e ▸ hc) (h w)
  have h4 : New4.tab.before a s = true := unparts (wk q3 (.code New4.yN New4.yB 6 none)) (wks q3 (.initialized New4.yN.cls :: New4.site))
  have q4 : ∀ w ∈ New4.tab :: words, w.before a s = true := fun w hw => (List.mem_cons.mp hw).elim (fun e => e ▸ h4) (h w)
  exact unparts (wk q4 (.code New1.yN New1.yB 2 none)) (wks q4 (.initialized New1.yN.cls :: New1.site))
/-- the words ride from the start Z to the walk's own state -/
theorem moved {Z s : State} {a0 args : Array Value} (hZ : Z.Warmed39 s.vm) (hw : ∀ d ∈ words, d.before a0 Z = true) : ∀ d ∈ words, d.before args s = true := fun d hd => by
  have q := hw d hd
  have t : ∀ d ∈ words, d = .arrayClass .byte ∨ (d.onTables && d.keepsFace) = true := by decide +kernel
  rcases t d hd with rfl | t
  · exact RoadKit.mvA hZ q
  · exact RoadKit.mv hZ q t
/-- WHAT COMES BACK, over the tables of the start Z: h the heap at the call, h' behind it -/
def Q (Z : State) (x : Addr) (A : Cell) (h : Heap) (v : Option Value) (h' : Heap) (L : List Loc) : Prop := v = none ∧ (∀ y ∈ L, y.base = x) ∧ RoadKit.Keep h h' [x] ∧ h'.size = h.size + 1 ∧ RoadKit.Exa Z h' x ST ∧ RoadKit.Fld Z h' x ST "value" "[B" (.ref h.size) ∧ RoadKit.Fld Z h' x ST "coder" "B" (.int 0) ∧
  (∃ V : Cell, RoadKit.Arr Z h' h.size V .byte ∧ V.vm = .none ∧ Z.vm.findClass "[B" = some V.cls ∧ V.slots.size = A.slots.size ∧ ∀ j, j < A.slots.size → V.slots[j]? = some (.int (lo8 (cv A j)))) ∧
  ∀ (O n d : String) (w : Value), RoadKit.Fld Z h x O n d w → RoadKit.slotOf Z O n d ≠ RoadKit.slotOf Z ST "value" "[B" → RoadKit.slotOf Z O n d ≠ RoadKit.slotOf Z ST "coder" "B" → RoadKit.Fld Z h' x O n d w
/-- **new String(chars) AT A CALL, IN THE ROAD'S FORM**: for specialBack behind newO: x the fresh String, b the char[] with the cell A -/
theorem back {p : Program} {l : Launch} {e : Env} {R : Room} {s : State} {args : Array Value} {below : List Frame} {len W : Nat} {Z : State} {a0 : Array Value} {h : Heap} (hZ : Z.Warmed39 s.vm) (hw : ∀ d ∈ words, d.before a0 Z = true) {kI : Nat} (wi : (Jvm.Cond.instantiable ST kI).before a0 Z = true)
    {x b : Addr} {A : Cell} {z : Int32} {v0 c0 : Value} (E : RoadKit.Exa Z h x ST) (V : RoadKit.Fld Z h x ST "value" "[B" v0) (C : RoadKit.Fld Z h x ST "coder" "B" c0) (K : RoadKit.Arr Z h b A .char) (hty : Typed .char A) (S : RoadKit.Sta Z h ST "COMPACT_STRINGS" "Z" (.int z)) (hz : ¬ z = 0)
    (l0 : 0 < A.slots.size) (l2 : A.slots.size ≤ 536870912) (hp : ∀ i, i < A.slots.size → ¬ 255 < cv A i) (hfr : 4 ≤ R.frames) (hlo : W + 65 ≤ R.locals) :
    Back l R p e below s args New1.yN len W (fun P a => a = #[.ref x, .ref b] ∧ P.U.heap = h ∧ P.cells + 1 ≤ R.cells ∧ P.slots + A.slots.size ≤ R.slots)
      (fun P _ v B => ∃ L, Q Z x A h v B.U.heap L ∧ B.locs = P.locs ++ L ∧ B.cells = P.cells + 1 ∧ B.slots = P.slots + A.slots.size) := by
  intro m meth c P g ig mk a X hg hsize hdg hW hn hp'
  obtain ⟨rfl, rfl, r1, r2⟩ := hp'
  have al : Z.vm.Alike P.U.vm := hZ.alike.trans X.warmed.alike
  obtain ⟨D, cfV, kV, iV, fV, hD, gV, stV, knV, obV, asV, slV⟩ := id V
  obtain ⟨D', cfC, kC, iC, fC, hD', gC, stC, -, -, asC, slC⟩ := id C
  cases hD.symm.trans hD'
  obtain ⟨D2, kD, e1, e2, e3, e4, e5⟩ := id E
  cases hD.symm.trans e1
  obtain ⟨c2, k2, i1, i2, i3, -⟩ := Cond.instantiable_spec wi
  cases e2.symm.trans i1
  cases e3.symm.trans i2
  obtain ⟨kU, u1, u2⟩ := al.2.2 _ _ e3
  have hB : Blank ST x D P.U := ⟨hD, ⟨knV, fun q hq => by rw [hq] at obV; cases obV⟩, by rw [al.findClass]; exact e2, kU, u1, by rw [u2]; exact i3, by rw [u2]; exact e5 i3⟩
  have F1 : Found ST "value" "[B" fV P.U := ⟨SBG.found_only al ⟨cfV, kV, iV, gV⟩, stV⟩
  have F2 : Found ST "coder" "B" fC P.U := ⟨SBG.found_only al ⟨cfC, kC, iC, gC⟩, stC⟩
  have hA : Ch b A P.U := ⟨⟨K.1, State.isArrayOf_alike al K.2.1, K.2.2, by omega⟩, hty⟩
  have hS : StaticIs P.U ST "COMPACT_STRINGS" "Z" (.int z) := by
    obtain ⟨cfS, iS, kS, fS, st, cS, t1, t2, t3, t4, t5, t6, t7⟩ := S
    exact StaticIs.there (s := { Z with heap := P.U.heap }) ⟨cfS, iS, kS, fS, st, cS, t1, t2, t3, t4, t5, (fun q => by rw [q] at t6; cases t6), t7⟩ al rfl
  obtain ⟨v, B, X', ⟨⟨hv, E', V', q1, q2, q3, q4, q5, q6, q7, q8, q9, q10, q11⟩, hl, hc, hs⟩, st⟩ := New1.pays x D fV fC b A z (tab_of (moved hZ hw)) hfr hlo m meth c P g ig mk _ X hg hsize hdg hW hn ⟨r1, r2, rfl, hB, F1, F2, hA, hS, hz, l0, l2, hp⟩
  have al' : Z.vm.Alike B.U.vm := hZ.alike.trans X'.warmed.alike
  have hsz : E'.slots.size = D.slots.size := by
    obtain ⟨-, -, -, kB, w1, w2, w3⟩ := q1
    obtain ⟨kB', y1, y2⟩ := al'.2.2 _ _ e3
    rw [q2.2.1] at w1
    cases w1.symm.trans y1
    rw [w3, e5 i3, y2]
  refine ⟨v, B, X', ⟨_, ⟨hv, ?_, ⟨by omega, fun y cy hy hn' => q10 y cy (by simpa using hn') hy, fun y cy hy => ?_⟩, q11, ⟨E', _, q1.1, by rw [q2.2.1]; exact e2, by rw [q2.2.1]; exact e3, by rw [q2.1]; exact obV, fun _ => by rw [hsz]; exact e5 i3⟩,
    ⟨E', cfV, kV, iV, fV, q1.1, gV, stV, by rw [q2.1]; exact knV, by rw [q2.1]; exact obV, by rw [q2.2.1]; exact asV, q3⟩, ⟨E', cfC, kC, iC, fC, q1.1, gC, stC, by rw [q2.1]; exact knV, by rw [q2.1]; exact obV, by rw [q2.2.1]; exact asC, q4⟩,
    ⟨V', ⟨q5.1, State.isArrayOf_alike al'.symm q5.2.1, q5.2.2.1⟩, q6, by rw [← al'.findClass]; exact q7, q8, fun j hj => by have := q9 j hj; rwa [Nat.zero_add] at this⟩, fun O n d w F n1 n2 => ?_⟩, hl, hc, hs⟩, st⟩
  · intro y hy
    simp only [List.mem_cons, List.not_mem_nil, or_false] at hy
    rcases hy with rfl | rfl <;> rfl
  · by_cases q : y = x
    · subst q
      cases hD.symm.trans hy
      exact ⟨E', q1.1, q2.2.1, q2.1, hsz⟩
    · exact ⟨cy, q10 y cy q hy, rfl, rfl, rfl⟩
  · obtain ⟨D3, cf, k, i, f, g1, g2, g3, g4, g5, g6, g7⟩ := F
    cases hD.symm.trans g1
    simp only [RoadKit.slotOf, g2, gV, gC, Option.map_some, Option.getD_some] at n1 n2
    exact ⟨E', cf, k, i, f, q1.1, g2, g3, by rw [q2.1]; exact g4, by rw [q2.1]; exact g5, by rw [q2.2.1]; exact g6, by rw [q2.2.2 f.slot (by simp [n1, n2])]; exact g7⟩
end StrChars.Road
namespace StrChars.Road
open Jvm Sem ClassFile Op Lib Jvm.Stand Jvm.Free Jvm.Free.XT
/-- WHAT COMES BACK, the byte[] as a list of values -/
def QA (Z : State) (x : Addr) (zn : Int32) (cs : List Int32) (h : Heap) (v : Option Value) (h' : Heap) (L : List Loc) : Prop := v = none ∧ (∀ y ∈ L, y.base = x) ∧ RoadKit.Keep h h' [x] ∧ h'.size = h.size + 1 ∧ RoadKit.Exa Z h' x ST ∧ RoadKit.Fld Z h' x ST "value" "[B" (.ref h.size) ∧ RoadKit.Fld Z h' x ST "coder" "B" (.int 0) ∧
  (∃ kb, Z.vm.findClass "[B" = some kb ∧ RoadKit.Arv Z h' h.size kb .byte zn (cs.map fun c => .int (lo8 c)) (.int 0)) ∧
  ∀ (O n d : String) (w : Value), RoadKit.Fld Z h x O n d w → RoadKit.slotOf Z O n d ≠ RoadKit.slotOf Z ST "value" "[B" → RoadKit.slotOf Z O n d ≠ RoadKit.slotOf Z ST "coder" "B" → RoadKit.Fld Z h' x O n d w
/-- **new String(chars) AT A CALL, THE ARRAYS AS LISTS**: the char[] at b holds cs, not empty, no char above 255 -/
theorem backArv {p : Program} {l : Launch} {e : Env} {R : Room} {s : State} {args : Array Value} {below : List Frame} {len W : Nat} {Z : State} {a0 : Array Value} {h : Heap} (hZ : Z.Warmed39 s.vm) (hw : ∀ d ∈ words, d.before a0 Z = true) {kI : Nat} (wi : (Jvm.Cond.instantiable ST kI).before a0 Z = true)
    {x b : Addr} {k : ClassId} {zn z : Int32} {cs : List Int32} {dv v0 c0 : Value} (E : RoadKit.Exa Z h x ST) (V : RoadKit.Fld Z h x ST "value" "[B" v0) (C : RoadKit.Fld Z h x ST "coder" "B" c0) (K : RoadKit.Arv Z h b k .char zn (cs.map Value.int) dv) (S : RoadKit.Sta Z h ST "COMPACT_STRINGS" "Z" (.int z)) (hz : ¬ z = 0)
    (hlen : zn.toNatClampNeg = cs.length) (h0 : 0 < cs.length) (hbig : cs.length ≤ 536870912) (hall : ∀ c ∈ cs, ¬ 255 < c) (hfr : 4 ≤ R.frames) (hlo : W + 65 ≤ R.locals) :
    Back l R p e below s args New1.yN len W (fun P a => a = #[.ref x, .ref b] ∧ P.U.heap = h ∧ P.cells + 1 ≤ R.cells ∧ P.slots + cs.length ≤ R.slots)
      (fun P _ v B => ∃ L, QA Z x zn cs h v B.U.heap L ∧ B.locs = P.locs ++ L ∧ B.cells = P.cells + 1 ∧ B.slots = P.slots + cs.length) := by
  obtain ⟨A, K1, K2, K3, K4, K5, K6⟩ := K
  have e : A.slots.size = cs.length := K3.trans hlen
  have hat : ∀ (i : Nat) (hi : i < cs.length), A.slots[i]? = some (.int cs[i]) := fun i hi => by rw [K5 i (by omega)]; simp [List.getD_eq_getElem?_getD, hi]
  have hcv : ∀ (i : Nat) (hi : i < cs.length), cv A i = cs[i] := fun i hi => by unfold cv; rw [hat i hi]
  have hty : Typed .char A := fun i v hv => by
    have hi : i < A.slots.size := (Array.getElem?_eq_some_iff.mp hv).1
    have q := K5 i hi
    rw [hv] at q
    rw [Option.some.inj q]
    exact K6 i hi
  refine Back.mono (back hZ hw wi E V C K1 hty S hz (by omega) (by omega) (fun i hi => by rw [hcv i (by omega)]; exact hall _ (List.getElem_mem _)) hfr hlo) (fun P a hp => ⟨hp.1, hp.2.1, hp.2.2.1, by rw [e]; exact hp.2.2.2⟩) (fun P a v B hp hq => ?_)
  obtain ⟨L, ⟨q1, q2, q3, q4, q5, q6, q7, ⟨V', v1, v2, v3, v4, v5⟩, q9⟩, hl, hc, hs⟩ := hq
  refine ⟨L, ⟨q1, q2, q3, q4, q5, q6, q7, ⟨V'.cls, v3, V', v1, rfl, by rw [v4, e, hlen], K4, fun i hi => ?_, fun i hi => ?_⟩, q9⟩, hl, hc, by rw [hs, e]⟩
  · have hi' : i < cs.length := by omega
    rw [v5 i (by omega), hcv i hi']; simp [List.getD_eq_getElem?_getD, hi']
  · have hi' : i < cs.length := by omega
    simp only [List.getD_eq_getElem?_getD, List.getElem?_map, List.getElem?_eq_getElem hi', Option.map_some, Option.getD_some]
    exact fits_lo8 _
end StrChars.Road
namespace StrChars.Road
open Jvm Sem ClassFile Op Lib Jvm.Stand Jvm.Free Jvm.Free.XT
/-- WHAT COMES BACK, in the writer's own shape -/
def QV (Z : State) (x : Addr) (N : Int32) (bs : List Int32) (h : Heap) (n0 : Nat) (v : Option Value) (h' : Heap) (L : List Loc) : Prop := v = none ∧ RoadKit.Fr n0 L ∧ RoadKit.Keep h h' [x] ∧ RoadKit.Exa Z h' x ST ∧ RoadKit.Fld Z h' x ST "coder" "B" (.int 0) ∧
  ∃ (t : Addr) (kb : ClassId), n0 ≤ t ∧ h.size ≤ t ∧ ¬ t = x ∧ RoadKit.Fld Z h' x ST "value" "[B" (.ref t) ∧ RoadKit.Arv Z h' t kb .byte N (bs.map Value.int) (.int 0)
/-- **new String(chars) AT A CALL, FOR THE WRITER**: a char[] of n known ints, each 0 to 255 -/
theorem backV {p : Program} {l : Launch} {e : Env} {R : Room} {s : State} {args : Array Value} {below : List Frame} {len W : Nat} {Z : State} {a0 : Array Value} {h : Heap} (hZ : Z.Warmed39 s.vm) (hw : ∀ d ∈ words, d.before a0 Z = true) {kI : Nat} (wi : (Jvm.Cond.instantiable ST kI).before a0 Z = true)
    {x b : Addr} {kC : ClassId} {cs bs : List Int32} {d v0 c0 : Value} {z N : Int32} {n n0 : Nat} (hx0 : n0 ≤ x) (hh0 : n0 ≤ h.size) (E : RoadKit.Exa Z h x ST) (V : RoadKit.Fld Z h x ST "value" "[B" v0) (C : RoadKit.Fld Z h x ST "coder" "B" c0) (K : RoadKit.Arv Z h b kC .char N (cs.map Value.int) d) (S : RoadKit.Sta Z h ST "COMPACT_STRINGS" "Z" (.int z)) (hz : ¬ z = 0)
    (hn : cs.length = n) (hN : N = Int32.ofNat n) (l0 : 0 < n) (l2 : n ≤ 4000) (hp : ∀ c ∈ cs, ¬ c < 0 ∧ ¬ (255 : Int32) < c) (hb : bs = cs.map (fun c => c.toInt8.toInt32)) (hfr : 4 ≤ R.frames) (hlo : W + 65 ≤ R.locals) :
    Back l R p e below s args (⟨"java/lang/String", "<init>", "([C)V"⟩ : MethodName) len W (fun P a => a = #[.ref x, .ref b] ∧ P.U.heap = h ∧ P.cells + 1 ≤ R.cells ∧ P.slots + n ≤ R.slots)
      (fun P _ v B => ∃ L, QV Z x N bs h n0 v B.U.heap L ∧ B.locs = P.locs ++ L ∧ B.cells = P.cells + 1 ∧ B.slots = P.slots + n) := by
  subst hn hN hb
  refine Back.mono (backArv hZ hw wi E V C K S hz (n32 (by omega)) l0 (by omega) (fun c hc => (hp c hc).2) hfr hlo) (fun P a hp => hp) (fun P a v B hp hq => ?_)
  obtain ⟨L, ⟨q1, q2, q3, q4, q5, q6, q7, ⟨kb, v1, v2⟩, q9⟩, hl, hc, hs⟩ := hq
  exact ⟨L, ⟨q1, fun y hy => by rw [q2 y hy]; exact hx0, q3, q5, q7, h.size, kb, hh0, Nat.le_refl _, Nat.ne_of_gt E.lt, q6, by rw [List.map_map]; exact v2⟩, hl, hc, hs⟩
end StrChars.Road
namespace StrChars
open Jvm Sem ClassFile Op Lib Jvm.Stand Jvm.Free.XT Jvm.Free.ALB Jvm.Free.JM Jvm.Free
open Jvm.Lib.Cold (StaticIs)
def hi8 (x : Int32) : Int32 := lo8 (x >>> ((8 : Int32) &&& 31))
/-- what StringUTF16.getChar makes of two bytes -/
def pairCh (u v : Int32) : Int32 := (((u &&& 255) <<< ((0 : Int32) &&& 31)) ||| ((v &&& 255) <<< ((8 : Int32) &&& 31))).toUInt32.toUInt16.toUInt32.toInt32
theorem lo8_and (x : Int32) : (lo8 x &&& 255).toBitVec.toNat = x.toBitVec.toNat % 256 := by
  have h : (lo8 x).toBitVec = (x.toBitVec.signExtend 8).signExtend 32 := by rw [lo8, Int8.toBitVec_toInt32, Int32.toBitVec_toInt8]
  rw [Int32.toBitVec_and, BitVec.toNat_and, h]
  have e : ((x.toBitVec.signExtend 8).signExtend 32).toNat % 256 = x.toBitVec.toNat % 256 := by
    rw [BitVec.toNat_signExtend]
    have hlt := x.toBitVec.isLt
    simp only [BitVec.toNat_setWidth, BitVec.toNat_signExtend]
    split <;> split <;> omega
  rw [← e]
  exact Nat.and_two_pow_sub_one_eq_mod _ 8
theorem pair_says {c : Int32} (h0 : ¬ c < 0) (h1 : ¬ 65535 < c) : pairCh (lo8 c) (hi8 c) = c := by
  rw [Int32.lt_iff_toInt_lt] at h0 h1
  have e0 : (0 : Int32).toInt = 0 := rfl
  have e1 : (65535 : Int32).toInt = 65535 := rfl
  have hc : c.toInt = c.toBitVec.toNat := by
    have := c.toBitVec.isLt
    have e : c.toInt = c.toBitVec.toInt := rfl
    rw [e] at h0 h1
    rw [e]
    rw [BitVec.toInt_eq_toNat_cond] at h0 h1 ⊢
    split at h0 <;> split <;> omega
  have hn : c.toBitVec.toNat < 65536 := by omega
  have a1 := lo8_and c
  have a2 : (hi8 c &&& 255).toBitVec.toNat = c.toBitVec.toNat / 256 := by
    rw [hi8, lo8_and]
    have e : ((8 : Int32) &&& 31) = 8 := by decide
    rw [e, Int32.toBitVec_shiftRight]
    have e2 : ((8 : Int32).toBitVec.smod 32) = 8#32 := by decide
    rw [e2, BitVec.sshiftRight_eq', BitVec.toNat_sshiftRight_of_msb_false (by rw [BitVec.msb_eq_false_iff_two_mul_lt]; omega)]
    show c.toBitVec.toNat >>> 8 % 256 = _
    rw [Nat.shiftRight_eq_div_pow]
    omega
  unfold pairCh
  apply Int32.toBitVec_inj.mp
  apply BitVec.eq_of_toNat_eq
  have f0 : ((0 : Int32) &&& 31) = 0 := by decide
  have f8 : ((8 : Int32) &&& 31) = 8 := by decide
  rw [f0, f8]
  have g : (((lo8 c &&& 255) <<< (0 : Int32)) ||| ((hi8 c &&& 255) <<< (8 : Int32))).toBitVec.toNat = c.toBitVec.toNat := by
    rw [Int32.toBitVec_or, Int32.toBitVec_shiftLeft, Int32.toBitVec_shiftLeft]
    have s0 : ((0 : Int32).toBitVec.smod 32) = 0#32 := by decide
    have s8 : ((8 : Int32).toBitVec.smod 32) = 8#32 := by decide
    rw [s0, s8, BitVec.toNat_or]
    simp only [BitVec.shiftLeft_eq', BitVec.toNat_shiftLeft, a1, a2]
    show (c.toBitVec.toNat % 256) <<< 0 % 2 ^ 32 ||| (c.toBitVec.toNat / 256) <<< 8 % 2 ^ 32 = _
    rw [Nat.shiftLeft_zero, Nat.mod_eq_of_lt (show c.toBitVec.toNat % 256 < 2 ^ 32 by omega), Nat.mod_eq_of_lt (show (c.toBitVec.toNat / 256) <<< 8 < 2 ^ 32 by rw [Nat.shiftLeft_eq]; omega), Nat.or_comm, ← Nat.shiftLeft_add_eq_or_of_lt (by omega), Nat.shiftLeft_eq]
    omega
  show BitVec.toNat (((((lo8 c &&& 255) <<< (0 : Int32)) ||| ((hi8 c &&& 255) <<< (8 : Int32))).toBitVec.setWidth 16).setWidth 32) = _
  rw [BitVec.toNat_setWidth, BitVec.toNat_setWidth, g]
  omega
end StrChars
namespace StrChars
open Jvm Sem ClassFile Op Lib Jvm.Stand Jvm.Free.XT Jvm.Free.ALB Jvm.Free.JM Jvm.Free
open Jvm.Lib.Cold (StaticIs)
/-- charAt's cast of a byte read back -/
def chr8 (u : Int32) : Int32 := (u &&& 255).toUInt32.toUInt16.toUInt32.toInt32
theorem chr8_lo8 {c : Int32} (h0 : ¬ c < 0) (h1 : ¬ 255 < c) : chr8 (lo8 c) = c := by
  have t : ∀ k : Fin 256, (Int32.ofNat k.val).toUInt32.toUInt16.toUInt32.toInt32 = Int32.ofNat k.val := by decide +kernel
  unfold chr8
  rw [lo8_mask h0 h1]
  rw [Int32.lt_iff_toInt_lt] at h0 h1
  have e0 : (0 : Int32).toInt = 0 := rfl
  have e1 : (255 : Int32).toInt = 255 := rfl
  obtain ⟨k, hk⟩ : ∃ k : Nat, c.toInt = k := ⟨c.toInt.toNat, by omega⟩
  have hx : c = Int32.ofNat k := Int32.toInt_inj.mp (by rw [hk, Int32.toInt_ofNat_small (by omega)])
  rw [hx]
  exact t ⟨k, by omega⟩
theorem narrow_ch {c : Int32} (h0 : ¬ c < 0) (h1 : ¬ 65535 < c) : narrow .char (.int c) = .int c := by
  have q : narrow .char (.int (pairCh (lo8 c) (hi8 c))) = .int (pairCh (lo8 c) (hi8 c)) := narrow_c _
  rwa [pair_says h0 h1] at q
end StrChars
end Jvm.Pilot.@@N@@
namespace Jvm.Pilot.@@N@@
open Jvm Jvm.ClassFile Sem Op Lib Jvm.Free Jvm.Stand Jvm.LawKit Jvm.RoadKit Bundle Jvm.Pilot.@@N@@.Jvm.D
theorem tw {a0 : Array Value} {Z : State} (hw : ∀ d ∈ tables_1, d.before a0 Z = true) (i : Nat) {d : Jvm.Cond} (h : tables_1[i]? = some d) : d.before a0 Z = true := hw d (List.mem_of_getElem? h)
theorem own_nat {j : Nat} (h : j < 2 ^ 31) : (Int32.ofNat j).toNatClampNeg = j := by
  have e : (Int32.ofNat j).toInt = (j : Int) := Int32.toInt_ofNat_of_lt h
  simp only [Int32.toNatClampNeg, e]; omega
theorem own_toInt {j : Nat} (h : j < 2 ^ 31) : (Int32.ofNat j).toInt = (j : Int) := Int32.toInt_ofNat_of_lt h
theorem own_nn {j : Nat} (h : j < 2 ^ 31) : ¬ Int32.ofNat j < 0 := fun q => by
  rw [Int32.lt_iff_toInt_lt, own_toInt h] at q
  have : (0 : Int32).toInt = 0 := by decide
  omega
theorem own_lt {i j : Nat} (hi : i < 2 ^ 31) (hj : j < 2 ^ 31) : Int32.ofNat i < Int32.ofNat j ↔ i < j := by
  rw [Int32.lt_iff_toInt_lt, own_toInt hi, own_toInt hj]; omega
theorem own_eqn {i j : Nat} (hi : i < 2 ^ 31) (hj : j < 2 ^ 31) : Int32.ofNat i = Int32.ofNat j ↔ i = j := by
  rw [← Int32.toInt_inj, own_toInt hi, own_toInt hj]; omega
theorem own_succ (j : Nat) : Int32.ofNat j + (1 : Int32) = Int32.ofNat (j + 1) := (Int32.ofNat_add j 1).symm
theorem own_getD {cs : List Int32} {j : Nat} (d : Value) (h : j < cs.length) (h2 : j < 2 ^ 31) : (cs.map Value.int).getD (Int32.ofNat j).toNatClampNeg d = .int (cs.getD j 0) := by
  rw [own_nat h2]
  simp [List.getD_eq_getElem?_getD, List.getElem?_map, List.getElem?_eq_getElem h]
theorem own_shl1 {j : Nat} (h : j < 2 ^ 30) : (Int32.ofNat j <<< ((1 : Int32) &&& 31)) = Int32.ofNat (2 * j) := by
  rw [← Int32.toInt_inj, Jvm.Kit.i32_shl (Int32.ofNat j) _ (k := 1) (by decide) (by rw [own_toInt (by omega)]; omega) (by rw [own_toInt (by omega)]; omega), own_toInt (by omega), own_toInt (by omega)]
  omega
theorem own_shr1 {j : Nat} (h : 2 * j < 2 ^ 31) : (Int32.ofNat (2 * j) >>> ((1 : Int32) &&& 31)) = Int32.ofNat j := by
  rw [← Int32.toInt_inj, Jvm.Kit.i32_shr (Int32.ofNat (2 * j)) _ (k := 1) (by decide), own_toInt h, own_toInt (by omega)]
  omega
theorem own_shr0 (c : Int32) : c >>> ((0 : Int32) &&& 31) = c := by
  rw [← Int32.toInt_inj, Jvm.Kit.i32_shr c _ (k := 0) (by decide)]
  omega
theorem own_i8 (x : Int32) : (x.toInt8.toInt32).toInt8.toInt32 = x.toInt8.toInt32 := by rw [Int8.toInt8_toInt32]
/-- the bytes of a text: the latin ones, with zeros behind -/
def latL (cs : List Int32) (j : Nat) : List Value := (cs.take j).map (fun c => Value.int (c.toInt8.toInt32)) ++ List.replicate (cs.length - j) (.int (0 : Int32))
theorem latL_zero (cs : List Int32) : latL cs 0 = List.replicate cs.length (.int (0 : Int32)) := by simp [latL]
theorem latL_full (cs : List Int32) : latL cs cs.length = cs.map (fun c => Value.int (c.toInt8.toInt32)) := by simp [latL]
theorem latL_len (cs : List Int32) {j : Nat} (h : j ≤ cs.length) : (latL cs j).length = cs.length := by simp [latL]; omega
theorem own_take_succ (cs : List Int32) {j : Nat} (h : j < cs.length) : cs.take (j + 1) = cs.take j ++ [cs.getD j 0] := by
  rw [List.take_add_one, List.getElem?_eq_getElem h, List.getD_eq_getElem?_getD, List.getElem?_eq_getElem h]; rfl
theorem latL_set (cs : List Int32) {j : Nat} (h : j < cs.length) : (latL cs j).set j (.int ((cs.getD j 0).toInt8.toInt32)) = latL cs (j + 1) := by
  unfold latL
  rw [own_take_succ cs h, List.map_append]
  obtain ⟨k, hk⟩ : ∃ k, cs.length - j = k + 1 := ⟨cs.length - j - 1, by omega⟩
  have hk2 : cs.length - (j + 1) = k := by omega
  have hl : ((cs.take j).map (fun c => Value.int (c.toInt8.toInt32))).length = j := by simp; omega
  rw [hk, hk2, List.replicate_succ, List.set_append_right _ _ (by omega), hl, Nat.sub_self]
  simp
/-- .. and as pairs of bytes -/
def u16 (cs : List Int32) : List Value := cs.flatMap (fun c => [.int (c.toInt8.toInt32), .int ((c >>> ((8 : Int32) &&& 31)).toInt8.toInt32)])
theorem u16_len (cs : List Int32) : (u16 cs).length = 2 * cs.length := by
  induction cs with
  | nil => rfl
  | cons a t ih => simp only [u16, List.flatMap_cons, List.length_append, List.length_cons, List.length_nil] at ih ⊢; omega
def u16L (cs : List Int32) (j : Nat) : List Value := u16 (cs.take j) ++ List.replicate (2 * (cs.length - j)) (.int (0 : Int32))
theorem u16L_zero (cs : List Int32) : u16L cs 0 = List.replicate (2 * cs.length) (.int (0 : Int32)) := by simp [u16L, u16]
theorem u16L_full (cs : List Int32) : u16L cs cs.length = u16 cs := by simp [u16L]
theorem u16L_len (cs : List Int32) {j : Nat} (h : j ≤ cs.length) : (u16L cs j).length = 2 * cs.length := by
  simp only [u16L, List.length_append, u16_len, List.length_take, List.length_replicate]; omega
theorem u16_app (a b : List Int32) : u16 (a ++ b) = u16 a ++ u16 b := by simp [u16]
theorem u16L_set (cs : List Int32) {j : Nat} (h : j < cs.length) : ((u16L cs j).set (2 * j) (.int ((cs.getD j 0).toInt8.toInt32))).set (2 * j + 1) (.int (((cs.getD j 0) >>> ((8 : Int32) &&& 31)).toInt8.toInt32)) = u16L cs (j + 1) := by
  unfold u16L
  rw [own_take_succ cs h, u16_app]
  obtain ⟨k, hk⟩ : ∃ k, cs.length - j = k + 1 := ⟨cs.length - j - 1, by omega⟩
  have hk2 : cs.length - (j + 1) = k := by omega
  have hl : (u16 (cs.take j)).length = 2 * j := by rw [u16_len]; simp; omega
  have e2 : 2 * (k + 1) = (2 * k + 1) + 1 := by omega
  rw [hk, hk2, e2, List.replicate_succ, List.replicate_succ, List.set_append_right _ _ (by omega), hl, Nat.sub_self, List.set_cons_zero, List.set_append_right _ _ (by omega), hl]
  have e3 : 2 * j + 1 - 2 * j = 1 := by omega
  rw [e3]
  simp [u16]
theorem u16_get (cs : List Int32) {j : Nat} (h : j < cs.length) : (u16 cs).getD (2 * j) (.int 0) = .int ((cs.getD j 0).toInt8.toInt32) ∧ (u16 cs).getD (2 * j + 1) (.int 0) = .int (((cs.getD j 0) >>> ((8 : Int32) &&& 31)).toInt8.toInt32) := by
  have e : cs = cs.take j ++ (cs.getD j 0 :: cs.drop (j + 1)) := by
    have h1 := List.take_append_drop j cs
    rw [List.drop_eq_getElem_cons h] at h1
    rw [List.getD_eq_getElem?_getD, List.getElem?_eq_getElem h]
    exact h1.symm
  have hl : (u16 (cs.take j)).length = 2 * j := by rw [u16_len]; simp; omega
  have e1 : u16 cs = u16 (cs.take j) ++ ([.int ((cs.getD j 0).toInt8.toInt32), .int (((cs.getD j 0) >>> ((8 : Int32) &&& 31)).toInt8.toInt32)] ++ u16 (cs.drop (j + 1))) := by
    rw [← List.append_assoc]
    conv => lhs; rw [e]
    rw [u16_app]
    simp only [u16, List.flatMap_cons, List.append_assoc]
  rw [e1]
  simp only [List.getD_eq_getElem?_getD]
  have e3 : 2 * j + 1 - 2 * j = 1 := by omega
  refine ⟨?_, ?_⟩
  · rw [List.getElem?_append_right (by omega), hl, Nat.sub_self]; rfl
  · rw [List.getElem?_append_right (by omega), hl, e3]; rfl
theorem own_c16 (x : Int32) : (x.toUInt32.toUInt16.toUInt32.toInt32).toUInt32.toUInt16.toUInt32.toInt32 = x.toUInt32.toUInt16.toUInt32.toInt32 := by
  have e1 : (x.toUInt32.toUInt16.toUInt32.toInt32).toUInt32 = x.toUInt32.toUInt16.toUInt32 := rfl
  rw [e1, UInt16.toUInt16_toUInt32]
theorem own_rng {cs : List Int32} {j : Nat} (h : ∀ c ∈ cs, ¬ c < 0 ∧ ¬ (65535 : Int32) < c) (hj : j < cs.length) : ¬ (cs.getD j 0) < 0 ∧ ¬ (65535 : Int32) < (cs.getD j 0) := by
  refine h _ ?_
  rw [List.getD_eq_getElem?_getD, List.getElem?_eq_getElem hj]
  exact List.getElem_mem hj
theorem own_coder {cs : List Int32} (h0 : 0 < cs.length) (hn : cs.length < 2 ^ 29) : nar .byte ((((Int32.ofNat cs.length - Int32.ofNat (2 * cs.length)).toUInt32 >>> ((31 : Int32) &&& 31).toUInt32).toInt32).toInt8.toInt32) = (1 : Int32) := by
  have e : ((Int32.ofNat cs.length - Int32.ofNat (2 * cs.length)).toUInt32 >>> ((31 : Int32) &&& 31).toUInt32).toInt32 = 1 := by
    have e1 : (Int32.ofNat cs.length - Int32.ofNat (2 * cs.length)).toInt = - (cs.length : Int) := by
      rw [Jvm.Kit.i32_sub (by rw [own_toInt (by omega), own_toInt (by omega)]; omega) (by rw [own_toInt (by omega), own_toInt (by omega)]; omega), own_toInt (by omega), own_toInt (by omega)]; omega
    generalize Int32.ofNat cs.length - Int32.ofNat (2 * cs.length) = x at e1
    have hb : 2 ^ 31 ≤ x.toBitVec.toNat := by
      have h1 : x.toInt = x.toBitVec.toInt := rfl
      rw [h1, BitVec.toInt_eq_toNat_cond] at e1
      split at e1
      · omega
      · omega
    have hl := x.toBitVec.isLt
    have hn31 : (((31 : Int32) &&& 31).toUInt32).toNat = 31 := by decide
    have e2 : ((x.toUInt32 >>> ((31 : Int32) &&& 31).toUInt32).toInt32).toBitVec.toNat = x.toBitVec.toNat / 2 ^ 31 := by
      simp only [UInt32.toBitVec_toInt32, UInt32.toBitVec_shiftRight, Int32.toBitVec_toUInt32]
      simp [BitVec.toNat_ushiftRight, Nat.shiftRight_eq_div_pow, hn31]
    rw [← Int32.toBitVec_inj]
    apply BitVec.eq_of_toNat_eq
    rw [e2]
    have : (1 : Int32).toBitVec.toNat = 1 := by decide
    omega
  rw [e]; decide
def hiS (c : Int32) : Int32 := if ¬ c < (55296 : Int32) ∧ c < (56320 : Int32) then 1 else 0
def loS (c : Int32) : Int32 := if ¬ c < (56320 : Int32) ∧ c < (57344 : Int32) then 1 else 0
def jmax (a b : Int32) : Int32 := if a < b then b else a
def jmin (a b : Int32) : Int32 := if b < a then b else a
theorem own_lt1 {i n : Nat} (hn : n < 2 ^ 31) (h : i + 1 < n) : (Int32.ofNat i) < ((Int32.ofNat n) - (1 : Int32)) := by
  have h1 : (1 : Int32).toInt = 1 := by decide
  rw [Int32.lt_iff_toInt_lt, Jvm.Kit.i32_sub (by rw [own_toInt hn, h1]; omega) (by rw [own_toInt hn, h1]; omega), own_toInt hn, own_toInt (by omega), h1]; omega
theorem own_lt1' {i n : Nat} (hi : i < 2 ^ 31) (h0 : 0 < n) (hn : n < 2 ^ 31) (h : (Int32.ofNat i) < ((Int32.ofNat n) - (1 : Int32))) : i + 1 < n := by
  have h1 : (1 : Int32).toInt = 1 := by decide
  rw [Int32.lt_iff_toInt_lt, Jvm.Kit.i32_sub (by rw [own_toInt hn, h1]; omega) (by rw [own_toInt hn, h1]; omega), own_toInt hn, own_toInt hi, h1] at h; omega
theorem own_pred {q : Nat} (h : 1 ≤ q) : (Int32.ofNat q) + (-1 : Int32) = Int32.ofNat (q - 1) := by
  obtain ⟨k, rfl⟩ : ∃ k, q = k + 1 := ⟨q - 1, by omega⟩
  rw [← own_succ k, Nat.add_sub_cancel]
  have : (1 : Int32) + (-1 : Int32) = 0 := by decide
  rw [Int32.add_assoc, this, Int32.add_zero]
theorem hiS_one {c : Int32} (h : ¬ hiS c = 0) : hiS c = 1 := by unfold hiS at *; split at h <;> simp_all
theorem loS_one {c : Int32} (h : ¬ loS c = 0) : loS c = 1 := by unfold loS at *; split at h <;> simp_all
def prs : List Int32 → Nat
  | c :: d :: t => if hiS c = 1 ∧ loS d = 1 then 1 + prs t else prs (d :: t)
  | [_] => 0
  | [] => 0
theorem prs_short {cs : List Int32} (h : cs.length ≤ 1) : prs cs = 0 := by
  match cs, h with
  | [], _ => rfl
  | [_], _ => rfl
theorem prs_drop (cs : List Int32) {i : Nat} (h : i + 1 < cs.length) : prs (cs.drop i) = if hiS (cs.getD i 0) = 1 ∧ loS (cs.getD (i + 1) 0) = 1 then 1 + prs (cs.drop (i + 2)) else prs (cs.drop (i + 1)) := by
  have e1 : cs.drop i = cs.getD i 0 :: cs.drop (i + 1) := by
    rw [List.drop_eq_getElem_cons (by omega : i < cs.length), List.getD_eq_getElem?_getD, List.getElem?_eq_getElem (by omega : i < cs.length)]; rfl
  have e2 : cs.drop (i + 1) = cs.getD (i + 1) 0 :: cs.drop (i + 2) := by
    rw [List.drop_eq_getElem_cons h, List.getD_eq_getElem?_getD, List.getElem?_eq_getElem h]; rfl
  rw [e1, e2, prs]
theorem prs_le2 : ∀ (n : Nat) (cs : List Int32), cs.length ≤ n → prs cs ≤ cs.length
  | 0, [], _ => Nat.le_refl _
  | _ + 1, [], _ => Nat.le_refl _
  | _ + 1, [_], _ => Nat.zero_le _
  | n + 1, c :: d :: t, h => by
    have h1 := prs_le2 n (d :: t) (by simp at h ⊢; omega)
    have h2 := prs_le2 n t (by simp at h ⊢; omega)
    rw [prs]
    split
    · simp; omega
    · simp at h1 ⊢; omega
theorem prs_le (cs : List Int32) : prs (cs.drop 0) ≤ cs.length := prs_le2 cs.length cs (Nat.le_refl _)
def wfR (cp m n : Nat) : Int32 := if 256 < cp ∨ m < n then 0 else 1
theorem own_ixneg {m n : Nat} (hm : m < 2 ^ 31) : (if m < n then Int32.ofNat m else (-1 : Int32)) < (0 : Int32) ↔ ¬ m < n := by
  by_cases h : m < n
  · rw [if_pos h]; exact ⟨fun q => absurd q (own_nn hm), fun q => absurd h q⟩
  · rw [if_neg h]; exact ⟨fun _ => h, fun _ => by decide⟩
def pcOf (i : Nat) : Nat := if i ≤ 6 then 9 + 5 * i else if i ≤ 128 then 39 + 6 * (i - 6) else 771 + 7 * (i - 128)
def pln (i : Nat) : Nat := if i ≤ 5 then 1 else if i ≤ 127 then 2 else 3
def psh (i : Nat) : Instr := if i ≤ 5 then .iconst (i : Int) else if i ≤ 127 then .bipush (i : Int) else .sipush (i : Int)
def PcAt (i : Nat) : Prop := decode method_5_code (pcOf i) = .ok (.dup, 1) ∧ decode method_5_code (pcOf i + 1) = .ok (psh i, pln i) ∧ decode method_5_code (pcOf i + 1 + pln i) = .ok (.iload 4, 2) ∧ decode method_5_code (pcOf i + 1 + pln i + 2) = .ok (.castore, 1)
instance (i : Nat) : Decidable (PcAt i) := by unfold PcAt; infer_instance
theorem pc_next (i : Nat) : pcOf i + 1 + pln i + 2 + 1 = pcOf (i + 1) := by
  unfold pcOf pln
  repeat' split
  all_goals omega
theorem pcA_0 : ∀ i : Fin 11, PcAt (0 + i) := by decide +kernel
theorem pcA_1 : ∀ i : Fin 11, PcAt (11 + i) := by decide +kernel
theorem pcA_2 : ∀ i : Fin 11, PcAt (22 + i) := by decide +kernel
theorem pcA_3 : ∀ i : Fin 11, PcAt (33 + i) := by decide +kernel
theorem pcA_4 : ∀ i : Fin 11, PcAt (44 + i) := by decide +kernel
theorem pcA_5 : ∀ i : Fin 11, PcAt (55 + i) := by decide +kernel
theorem pcA_6 : ∀ i : Fin 11, PcAt (66 + i) := by decide +kernel
theorem pcA_7 : ∀ i : Fin 11, PcAt (77 + i) := by decide +kernel
theorem pcA_8 : ∀ i : Fin 11, PcAt (88 + i) := by decide +kernel
theorem pcA_9 : ∀ i : Fin 11, PcAt (99 + i) := by decide +kernel
theorem pcA_10 : ∀ i : Fin 11, PcAt (110 + i) := by decide +kernel
theorem pcA_11 : ∀ i : Fin 11, PcAt (121 + i) := by decide +kernel
theorem pcA_12 : ∀ i : Fin 11, PcAt (132 + i) := by decide +kernel
theorem pcA_13 : ∀ i : Fin 11, PcAt (143 + i) := by decide +kernel
theorem pcA_14 : ∀ i : Fin 11, PcAt (154 + i) := by decide +kernel
theorem pcA_15 : ∀ i : Fin 11, PcAt (165 + i) := by decide +kernel
theorem pcA_16 : ∀ i : Fin 11, PcAt (176 + i) := by decide +kernel
theorem pcA_17 : ∀ i : Fin 11, PcAt (187 + i) := by decide +kernel
theorem pcA_18 : ∀ i : Fin 11, PcAt (198 + i) := by decide +kernel
theorem pcA_19 : ∀ i : Fin 11, PcAt (209 + i) := by decide +kernel
theorem pcA_20 : ∀ i : Fin 11, PcAt (220 + i) := by decide +kernel
theorem pcA_21 : ∀ i : Fin 11, PcAt (231 + i) := by decide +kernel
theorem pcA_22 : ∀ i : Fin 11, PcAt (242 + i) := by decide +kernel
theorem pc_all (i : Nat) (h : i < 253) : PcAt i := by
  obtain ⟨k, r, hr, rfl⟩ : ∃ k r, r < 11 ∧ i = 11 * k + r := ⟨i / 11, i % 11, Nat.mod_lt _ (by decide), (Nat.div_add_mod i 11).symm⟩
  have hk : k < 23 := by omega
  match k, hk with
  | 0, _ => exact pcA_0 ⟨r, hr⟩
  | 1, _ => exact pcA_1 ⟨r, hr⟩
  | 2, _ => exact pcA_2 ⟨r, hr⟩
  | 3, _ => exact pcA_3 ⟨r, hr⟩
  | 4, _ => exact pcA_4 ⟨r, hr⟩
  | 5, _ => exact pcA_5 ⟨r, hr⟩
  | 6, _ => exact pcA_6 ⟨r, hr⟩
  | 7, _ => exact pcA_7 ⟨r, hr⟩
  | 8, _ => exact pcA_8 ⟨r, hr⟩
  | 9, _ => exact pcA_9 ⟨r, hr⟩
  | 10, _ => exact pcA_10 ⟨r, hr⟩
  | 11, _ => exact pcA_11 ⟨r, hr⟩
  | 12, _ => exact pcA_12 ⟨r, hr⟩
  | 13, _ => exact pcA_13 ⟨r, hr⟩
  | 14, _ => exact pcA_14 ⟨r, hr⟩
  | 15, _ => exact pcA_15 ⟨r, hr⟩
  | 16, _ => exact pcA_16 ⟨r, hr⟩
  | 17, _ => exact pcA_17 ⟨r, hr⟩
  | 18, _ => exact pcA_18 ⟨r, hr⟩
  | 19, _ => exact pcA_19 ⟨r, hr⟩
  | 20, _ => exact pcA_20 ⟨r, hr⟩
  | 21, _ => exact pcA_21 ⟨r, hr⟩
  | 22, _ => exact pcA_22 ⟨r, hr⟩
  | k + 23, h => exact absurd h (by omega)
def fillL (i : Nat) : List Value := List.replicate i (.int (97 : Int32)) ++ List.replicate (257 - i) (.int (0 : Int32))
theorem fillL_len {i : Nat} (h : i ≤ 257) : (fillL i).length = 257 := by simp [fillL]; omega
theorem fillL_set {i : Nat} (h : i < 257) : (fillL i).set i (.int (97 : Int32)) = fillL (i + 1) := by
  unfold fillL
  obtain ⟨k, hk⟩ : ∃ k, 257 - i = k + 1 := ⟨256 - i, by omega⟩
  have hk2 : 257 - (i + 1) = k := by omega
  rw [hk, hk2, List.replicate_succ, List.set_append_right _ _ (by simp), List.length_replicate, Nat.sub_self, List.set_cons_zero, List.replicate_succ', List.append_assoc]
  rfl
theorem fill_push {i : Nat} (h : i < 253) : (Int32.ofInt (i : Int)) = Int32.ofNat i ∧ (i ≤ 127 → (Int8.ofInt (i : Int)).toInt32 = Int32.ofNat i) ∧ (Int16.ofInt (i : Int)).toInt32 = Int32.ofNat i := by
  refine ⟨rfl, fun h2 => ?_, ?_⟩
  · rw [← Int32.toInt_inj, Int8.toInt_toInt32, own_toInt (by omega), Int8.toInt_ofInt, show Int8.size = 256 from rfl]
    exact Int.bmod_eq_of_le (by omega) (by omega)
  · rw [← Int32.toInt_inj, Int16.toInt_toInt32, own_toInt (by omega), Int16.toInt_ofInt, show Int16.size = 65536 from rfl]
    exact Int.bmod_eq_of_le (by omega) (by omega)
set_option maxRecDepth 65536 in
theorem tnFill {p : Program} {l : Launch} {e : Env} {s : State} {m : MethodId} {args : Array Value} {below : List Frame} {meth : Method} {c : Code} {T0 : State} {locs : List Loc} {Z : State} {h0 : Heap} {n0 : Nat} (p1 p2 p3 p4 : Int32) (b : Addr) (k1 : ClassId) (i : Nat) (X0 : Stand p l e ({ frames := 6, cells := 4, slots := 1300, locals := 190 } : Room) s m args below meth c T0 locs 1 257) (hx : p.tables.exec = Jvm.exec) (hZ : Z.Warmed39 s.vm) (hby : c.code = method_5_code) (e0 : T0.heap = h0) (N0 : Fr n0 locs) (gb : n0 ≤ b) (hi : i < 253) (V : Arv Z h0 b k1 .char (257 : Int32) (fillL i) (.int (0 : Int32))) :
    ∃ (T' : State) (h' : Heap) (L' : List Loc), Stand p l e ({ frames := 6, cells := 4, slots := 1300, locals := 190 } : Room) s m args below meth c T' L' 1 257 ∧ T'.heap = h' ∧ Fr n0 L' ∧ Keep h0 h' [b] ∧ Arv Z h' b k1 .char (257 : Int32) (fillL (i + 1)) (.int (0 : Int32)) ∧ ∀ target, Steps p.tables e below (T'.setTop (mkF m (pcOf (i + 1)) #[.val (.int p1), .val (.int p2), .val (.int p3), .val (.int p4), .val (.int (97 : Int32)), .unset] [.ref b])) target → Steps p.tables e below (T0.setTop (mkF m (pcOf i) #[.val (.int p1), .val (.int p2), .val (.int p3), .val (.int p4), .val (.int (97 : Int32)), .unset] [.ref b])) target := by
  obtain ⟨q0, q1, q2, q3⟩ := pc_all i hi
  obtain ⟨cl, Ar, qk, S, Nn, H, G⟩ := id V
  have hi31 : i < 2 ^ 31 := by omega
  obtain ⟨T1, h1, X1, e1, W1, st1⟩ := stC X0 hx hZ e0 Ar (j := Int32.ofNat i) (x := (97 : Int32)) (inb_of S ⟨own_nn hi31, (own_lt (j := 257) hi31 (by decide)).mpr (by omega)⟩) (g := (mkF m (pcOf i + 1 + pln i + 2) #[.val (.int p1), .val (.int p2), .val (.int p3), .val (.int p4), .val (.int (97 : Int32)), .unset] [.int (97 : Int32), .int (Int32.ofNat i), .ref b, .ref b])) rfl rfl (hb hby q3)
  rw [show nar .char (97 : Int32) = (97 : Int32) from by decide] at W1
  have V1 := Arv.set Ar qk S Nn H G (by decide) W1 i (own_nat hi31) (by rw [fillL_len (by omega)]; omega)
  rw [fillL_set (by omega)] at V1
  refine ⟨T1, h1, _, X1, e1, Fr.snoc X1 N0 gb, Keep.of_wr W1, V1, fun target kt => ?_⟩
  refine XS.dup X0.here hx rfl (hb hby q0) rfl rfl ?_
  show Steps p.tables e below (T0.setTop (mkF m (pcOf i + 1) #[.val (.int p1), .val (.int p2), .val (.int p3), .val (.int p4), .val (.int (97 : Int32)), .unset] [.ref b, .ref b])) _
  have fin : Steps p.tables e below (T0.setTop (mkF m (pcOf i + 1 + pln i) #[.val (.int p1), .val (.int p2), .val (.int p3), .val (.int p4), .val (.int (97 : Int32)), .unset] [.int (Int32.ofNat i), .ref b, .ref b])) target := by
    refine XS.iload X0.here hx rfl (hb hby q2) rfl ?_
    show Steps p.tables e below (T0.setTop (mkF m (pcOf i + 1 + pln i + 2) #[.val (.int p1), .val (.int p2), .val (.int p3), .val (.int p4), .val (.int (97 : Int32)), .unset] [.int (97 : Int32), .int (Int32.ofNat i), .ref b, .ref b])) _
    refine st1 _ ?_
    show Steps p.tables e below (T1.setTop (mkF m (pcOf i + 1 + pln i + 2 + 1) #[.val (.int p1), .val (.int p2), .val (.int p3), .val (.int p4), .val (.int (97 : Int32)), .unset] [.ref b])) _
    rw [pc_next i]; exact kt
  obtain ⟨f1, f2, f3⟩ := fill_push hi
  by_cases c1 : i ≤ 5
  · have a1 : psh i = .iconst (i : Int) := if_pos c1
    have a2 : pln i = 1 := if_pos c1
    rw [a1, a2] at q1; rw [a2] at fin
    refine XS.iconst X0.here hx rfl (hb hby q1) ?_
    exact f1 ▸ fin
  · by_cases c2 : i ≤ 127
    · have a1 : psh i = .bipush (i : Int) := (if_neg c1).trans (if_pos c2)
      have a2 : pln i = 2 := (if_neg c1).trans (if_pos c2)
      rw [a1, a2] at q1; rw [a2] at fin
      refine XS.bipush X0.here hx rfl (hb hby q1) ?_
      rw [f2 c2]; exact fin
    · have a1 : psh i = .sipush (i : Int) := (if_neg c1).trans (if_neg c2)
      have a2 : pln i = 3 := (if_neg c1).trans (if_neg c2)
      rw [a1, a2] at q1; rw [a2] at fin
      refine XS.sipush X0.here hx rfl (hb hby q1) ?_
      rw [f3]; exact fin
theorem lpFill {p : Program} {l : Launch} {e : Env} {s : State} {m : MethodId} {args : Array Value} {below : List Frame} {meth : Method} {c : Code} {T0 : State} {locs : List Loc} {Z : State} {h0 : Heap} {n0 : Nat} (p1 p2 p3 p4 : Int32) (b : Addr) (k1 : ClassId) (X0 : Stand p l e ({ frames := 6, cells := 4, slots := 1300, locals := 190 } : Room) s m args below meth c T0 locs 1 257) (hx : p.tables.exec = Jvm.exec) (hZ : Z.Warmed39 s.vm) (hby : c.code = method_5_code) (e0 : T0.heap = h0) (N0 : Fr n0 locs) (gb : n0 ≤ b) (V : Arv Z h0 b k1 .char (257 : Int32) (fillL 0) (.int (0 : Int32))) :
    ∀ i, i ≤ 253 → ∃ (T' : State) (h' : Heap) (L' : List Loc), Stand p l e ({ frames := 6, cells := 4, slots := 1300, locals := 190 } : Room) s m args below meth c T' L' 1 257 ∧ T'.heap = h' ∧ Fr n0 L' ∧ Keep h0 h' [b] ∧ Arv Z h' b k1 .char (257 : Int32) (fillL i) (.int (0 : Int32)) ∧ ∀ target, Steps p.tables e below (T'.setTop (mkF m (pcOf i) #[.val (.int p1), .val (.int p2), .val (.int p3), .val (.int p4), .val (.int (97 : Int32)), .unset] [.ref b])) target → Steps p.tables e below (T0.setTop (mkF m 9 #[.val (.int p1), .val (.int p2), .val (.int p3), .val (.int p4), .val (.int (97 : Int32)), .unset] [.ref b])) target := by
  intro i
  induction i with
  | zero => exact fun _ => ⟨T0, h0, locs, X0, e0, N0, Keep.refl _ _, V, fun _ k => k⟩
  | succ i ih =>
    intro hi
    obtain ⟨T, h, L, X, e1, N, K, V1, st⟩ := ih (by omega)
    obtain ⟨T2, h2, L2, X2, e2, N2, K2, V2, st2⟩ := tnFill p1 p2 p3 p4 b k1 i X hx hZ hby e1 N gb (by omega) V1
    exact ⟨T2, h2, L2, X2, e2, N2, K.trans K2 (allS (Or.inl (List.mem_of_getElem? (i := 0) rfl)) all0), V2, fun t k => st _ (st2 _ k)⟩
def longL (p1 p2 p3 p4 : Int32) : List Int32 := List.replicate 253 (97 : Int32) ++ [p1, p2, p3, p4]
theorem longL_eq (p1 p2 p3 p4 : Int32) : ((((fillL 253).set 253 (.int p1)).set 254 (.int p2)).set 255 (.int p3)).set 256 (.int p4) = (longL p1 p2 p3 p4).map Value.int := by
  unfold fillL longL
  rw [List.set_append_right _ _ (by rw [List.length_replicate]; decide), List.set_append_right _ _ (by rw [List.length_replicate]; decide), List.set_append_right _ _ (by rw [List.length_replicate]; decide), List.set_append_right _ _ (by rw [List.length_replicate]; decide), List.length_replicate, List.map_append, List.map_replicate]
  rfl
theorem own_chr (x : Int32) : ¬ (nar .char x) < 0 ∧ ¬ (65535 : Int32) < nar .char x := by
  have h := fits_nar_char x
  simp only [fits, Bool.and_eq_true, decide_eq_true_eq] at h
  exact ⟨Int32.not_lt.mpr h.1, Int32.not_lt.mpr h.2⟩
theorem own_nc {c : Int32} (r : ¬ c < 0 ∧ ¬ (65535 : Int32) < c) : nar .char c = c := Value.int.inj (StrChars.narrow_ch r.1 r.2)
theorem own_fitc {c : Int32} (r : ¬ c < 0 ∧ ¬ (65535 : Int32) < c) : fits .char (.int c) = true := by
  have h := fits_nar_char c
  rw [own_nc r] at h; exact h
def prI (c d : Int32) : Int32 := if hiS c = 1 ∧ loS d = 1 then 1 else 0
theorem own_hi (c : Int32) : hiS c = 1 ↔ ¬ c < (55296 : Int32) ∧ ¬ (56319 : Int32) < c := by
  have e : c < (56320 : Int32) ↔ ¬ (56319 : Int32) < c := by
    have h1 : (56320 : Int32).toInt = 56320 := by decide
    have h2 : (56319 : Int32).toInt = 56319 := by decide
    rw [Int32.lt_iff_toInt_lt, Int32.lt_iff_toInt_lt]; omega
  unfold hiS
  rw [← e]
  by_cases h : ¬ c < (55296 : Int32) ∧ c < (56320 : Int32)
  · rw [if_pos h]; exact ⟨fun _ => h, fun _ => rfl⟩
  · rw [if_neg h]; exact ⟨fun q => absurd q (by decide), fun q => absurd q h⟩
theorem own_loS (c : Int32) : loS c = 1 ↔ ¬ c < (56320 : Int32) ∧ ¬ (57343 : Int32) < c := by
  have e : c < (57344 : Int32) ↔ ¬ (57343 : Int32) < c := by
    have h1 : (57344 : Int32).toInt = 57344 := by decide
    have h2 : (57343 : Int32).toInt = 57343 := by decide
    rw [Int32.lt_iff_toInt_lt, Int32.lt_iff_toInt_lt]; omega
  unfold loS
  rw [← e]
  by_cases h : ¬ c < (56320 : Int32) ∧ c < (57344 : Int32)
  · rw [if_pos h]; exact ⟨fun _ => h, fun _ => rfl⟩
  · rw [if_neg h]; exact ⟨fun q => absurd q (by decide), fun q => absurd q h⟩
theorem own_excl {c : Int32} (h : loS c = 1) : ¬ hiS c = 1 := fun q => by
  rw [own_hi] at q; rw [own_loS] at h
  have h1 : (56319 : Int32).toInt = 56319 := by decide
  have h2 : (56320 : Int32).toInt = 56320 := by decide
  have q2 := q.2; have h3 := h.1
  rw [Int32.lt_iff_toInt_lt] at q2 h3; omega
theorem own_lat_hi {c : Int32} (h : ¬ (255 : Int32) < c) : ¬ hiS c = 1 := fun q => by
  rw [own_hi] at q
  have h1 : (255 : Int32).toInt = 255 := by decide
  have h2 : (55296 : Int32).toInt = 55296 := by decide
  have q1 := q.1
  rw [Int32.lt_iff_toInt_lt] at q1 h; omega
theorem prs_lat : ∀ (cs : List Int32), (∀ c ∈ cs, ¬ (255 : Int32) < c) → prs cs = 0
  | [], _ => rfl
  | [_], _ => rfl
  | c :: d :: t, h => by
    rw [prs, if_neg (fun q => own_lat_hi (h c (by simp)) q.1)]
    exact prs_lat (d :: t) (fun x hx => h x (by simp at hx ⊢; exact Or.inr hx))
theorem prs_a (d : Int32) (t : List Int32) : prs ((97 : Int32) :: d :: t) = prs (d :: t) := by
  rw [prs, if_neg (fun q => absurd q.1 (by decide))]
theorem prs_as (d : Int32) (t : List Int32) : ∀ n : Nat, prs (List.replicate n (97 : Int32) ++ d :: t) = prs (d :: t)
  | 0 => rfl
  | 1 => prs_a d t
  | n + 2 => by
    have ih := prs_as d t (n + 1)
    rw [List.replicate_succ, List.cons_append] at ih
    rw [List.replicate_succ, List.replicate_succ, List.cons_append, List.cons_append, prs_a, ih]
theorem longL_len (a b c d : Int32) : (longL a b c d).length = 257 := by
  unfold longL; rw [List.length_append, List.length_replicate]; rfl
theorem own_prs4 (a b c d : Int32) : prs [a, b, c, d] = (if hiS a = 1 ∧ loS b = 1 then 1 else 0) + (if hiS b = 1 ∧ loS c = 1 then 1 else 0) + (if hiS c = 1 ∧ loS d = 1 then 1 else 0) := by
  by_cases h1 : hiS a = 1 ∧ loS b = 1
  · have hb := own_excl h1.2
    by_cases h3 : hiS c = 1 ∧ loS d = 1
    · simp [prs, h1, h3, hb]
    · simp [prs, h1, h3, hb]
  · by_cases h2 : hiS b = 1 ∧ loS c = 1
    · have hc := own_excl h2.2
      simp [prs, h1, h2, hc]
    · by_cases h3 : hiS c = 1 ∧ loS d = 1
      · simp [prs, h1, h2, h3]
      · simp [prs, h1, h2, h3]
theorem own_x (a b c d : Int32) : ((((257 : Int32) - (prI a b)) - (prI b c)) - (prI c d)) = Int32.ofNat ((longL a b c d).length - prs (longL a b c d)) := by
  rw [longL_len, show prs (longL a b c d) = prs [a, b, c, d] from prs_as a [b, c, d] 253, own_prs4]
  unfold prI
  by_cases h1 : hiS a = 1 ∧ loS b = 1 <;> by_cases h2 : hiS b = 1 ∧ loS c = 1 <;> by_cases h3 : hiS c = 1 ∧ loS d = 1 <;> simp only [h1, h2, h3, if_true, if_false] <;> decide
theorem own_big (cs : List Int32) : (∀ c ∈ cs, ¬ (255 : Int32) < c) ∨ ∃ m, m < cs.length ∧ (∀ j, j < m → ¬ ((255 : Int32) < cs.getD j 0)) ∧ (255 : Int32) < cs.getD m 0 := by
  induction cs with
  | nil => exact Or.inl (fun c hc => nomatch hc)
  | cons a t ih =>
    by_cases ha : (255 : Int32) < a
    · exact Or.inr ⟨0, by simp, fun j hj => absurd hj (Nat.not_lt_zero _), ha⟩
    · rcases ih with h | ⟨m, hm, hp, he⟩
      · refine Or.inl (fun c hc => ?_)
        rcases List.mem_cons.mp hc with rfl | hc
        · exact ha
        · exact h c hc
      · refine Or.inr ⟨m + 1, by simp; omega, fun j hj => ?_, he⟩
        cases j with
        | zero => exact ha
        | succ j => exact hp j (by omega)
theorem own_zero (cs : List Int32) : ∃ m, m ≤ cs.length ∧ (∀ j, j < m → ¬ ((cs.getD j 0) = (0 : Int32))) ∧ (m < cs.length → (cs.getD m 0) = (0 : Int32)) := by
  induction cs with
  | nil => exact ⟨0, Nat.le_refl _, fun j hj => absurd hj (Nat.not_lt_zero _), fun h => absurd h (Nat.not_lt_zero _)⟩
  | cons a t ih =>
    by_cases ha : a = 0
    · exact ⟨0, Nat.zero_le _, fun j hj => absurd hj (Nat.not_lt_zero _), fun _ => ha⟩
    · obtain ⟨m, hm, hp, he⟩ := ih
      refine ⟨m + 1, by simp; omega, fun j hj => ?_, fun h => he (by simp at h; omega)⟩
      cases j with
      | zero => exact ha
      | succ j => exact hp j (by omega)
theorem own_getmem {cs : List Int32} {j : Nat} (h : j < cs.length) : cs.getD j 0 ∈ cs := by
  rw [List.getD_eq_getElem?_getD, List.getElem?_eq_getElem h]; exact List.getElem_mem h
theorem own_memget {cs : List Int32} {c : Int32} (h : c ∈ cs) : ∃ j, j < cs.length ∧ cs.getD j 0 = c := by
  obtain ⟨j, hj, e⟩ := List.mem_iff_getElem.mp h
  exact ⟨j, hj, by rw [List.getD_eq_getElem?_getD, List.getElem?_eq_getElem hj]; exact e⟩
theorem own_wf1 {cs : List Int32} {cp mz : Nat} (hnz : ∀ c ∈ cs, ¬ c = 0) (hcp : cp ≤ 256) (hez : mz < cs.length → (cs.getD mz 0) = (0 : Int32)) : wfR cp mz cs.length = (1 : Int32) := by
  rw [wfR, if_neg]
  rintro (h | h)
  · omega
  · exact hnz _ (own_getmem h) (hez h)
theorem own_wf0 {cs : List Int32} {cp mz : Nat} {c : Int32} (hc : c ∈ cs) (h0 : c = 0) (hpz : ∀ j, j < mz → ¬ ((cs.getD j 0) = (0 : Int32))) : wfR cp mz cs.length = (0 : Int32) := by
  obtain ⟨j, hj, e⟩ := own_memget hc
  rw [wfR, if_pos]
  refine Or.inr (Nat.lt_of_le_of_lt (Nat.le_of_not_lt fun q => hpz j q (e.trans h0)) hj)
theorem own_wfc {cp mz n : Nat} (h : 256 < cp) : wfR cp mz n = (0 : Int32) := by rw [wfR, if_pos (Or.inl h)]
theorem own_lo0 {c : Int32} (r : ¬ c < 0 ∧ ¬ (255 : Int32) < c) (h : c.toInt8.toInt32 = 0) : c = 0 := by
  have e := StrChars.chr8_lo8 r.1 r.2
  rw [show StrChars.lo8 c = c.toInt8.toInt32 from rfl, h] at e
  rw [← e]; decide
theorem own_nzL {cs : List Int32} (hr : ∀ c ∈ cs, ¬ c < 0 ∧ ¬ (255 : Int32) < c) (hnz : ∀ c ∈ cs, ¬ c = 0) : ∀ b ∈ cs.map (fun c => c.toInt8.toInt32), ¬ b = 0 := fun b hb q => by
  obtain ⟨c, hc, rfl⟩ := List.mem_map.mp hb
  exact hnz c hc (own_lo0 (hr c hc) q)
theorem own_zL {cs : List Int32} {c : Int32} (hc : c ∈ cs) (h0 : c = 0) : (0 : Int32) ∈ cs.map (fun c => c.toInt8.toInt32) := List.mem_map.mpr ⟨c, hc, by rw [h0]; decide⟩
theorem own_sel (p : Int32) (h : ¬ ((4 : Int32) < (p &&& (7 : Int32)))) : (p &&& (7 : Int32)) = (0 : Int32) ∨ (p &&& (7 : Int32)) = (1 : Int32) ∨ (p &&& (7 : Int32)) = (2 : Int32) ∨ (p &&& (7 : Int32)) = (3 : Int32) ∨ (p &&& (7 : Int32)) = (4 : Int32) := by
  have e1 : (p &&& (7 : Int32)).toInt = p.toInt % 2 ^ 3 := Jvm.Kit.i32_mask p _ (k := 3) (by decide) (by decide)
  have h4 : (4 : Int32).toInt = 4 := by decide
  rw [Int32.lt_iff_toInt_lt] at h
  simp only [← Int32.toInt_inj, show (0 : Int32).toInt = 0 from by decide, show (1 : Int32).toInt = 1 from by decide, show (2 : Int32).toInt = 2 from by decide, show (3 : Int32).toInt = 3 from by decide, h4]
  omega
theorem own_rngL {cs : List Int32} (hcs : ∀ c ∈ cs, ¬ c < 0 ∧ ¬ (65535 : Int32) < c) (hL : ∀ c ∈ cs, ¬ (255 : Int32) < c) : ∀ c ∈ cs, ¬ c < 0 ∧ ¬ (255 : Int32) < c := fun c h => ⟨(hcs c h).1, hL c h⟩
theorem own_longMem {P : Int32 → Prop} {a b c d : Int32} (h0 : P 97) (ha : P a) (hb : P b) (hc : P c) (hd : P d) : ∀ x ∈ longL a b c d, P x := fun x hx => by
  unfold longL at hx
  rcases List.mem_append.mp hx with h | h
  · rw [(List.mem_replicate.mp h).2]; exact h0
  · simp only [List.mem_cons, List.not_mem_nil, or_false] at h
    rcases h with rfl | rfl | rfl | rfl <;> assumption
theorem own_backH {p : Program} {l : Launch} {e : Env} {R : Room} {s : State} {args : Array Value} {below : List Frame} {Z : State} {a0 : Array Value} {EL : List (String × Nat)} {h : Heap} {vm0 : Vm} {y : MethodName} {bytes : ByteArray} {maxL : Nat} {ret : Option FieldType} {rm : Room} {len W : Nat} {as' : Array Value} {Q : Option Value → Heap → List Loc → Prop}
    (hM : MetFree l y (head1 [Jvm.Cond.code y bytes maxL ret] rm) (fun a U => a = as' ∧ Z.Warmed39 U.vm ∧ U.heap = h ∧ CHv Z EL U.vm h) (fun _ _ _ _ _ => True) (fun _ U o U' => ∃ v L, o = .returned v ∧ Q v U'.heap L ∧ ReturnedEndW U o U' L rm.cells rm.slots))
    (hZ : Z.Warmed39 vm0) (wc : (Jvm.Cond.code y bytes maxL ret).before a0 Z = true) (wz : (Jvm.Cond.initialized y.cls).before a0 Z = true) (hf : rm.frames + 1 ≤ R.frames) (hl : W + (maxL + 11) + rm.locals ≤ R.locals) (hEL : EW Z a0 EL) (H : CHv Z EL vm0 h) :
    BackS l R p e below (s.setVm vm0) args y len W (fun A a => a = as' ∧ A.U.heap = h ∧ A.cells + rm.cells ≤ R.cells ∧ A.slots + rm.slots ≤ R.slots)
      (fun A _ v B => ∃ L, Q v B.U.heap L ∧ B.locs = A.locs ++ L ∧ B.cells = A.cells + rm.cells ∧ B.slots = A.slots + rm.slots) := by
  refine BackS.of_freeW (bytes := bytes) (maxL := maxL) (ret := ret) (E := fun _ _ o t L k n => k = rm.cells ∧ n = rm.slots ∧ ∃ v, o = .returned v ∧ Q v t.heap L) hM hf hl ?_ ?_ (fun _ _ _ _ _ _ _ _ _ => trivial) ?_ ?_
  · intro m meth c A a Y hp
    have hU : Z.Warmed39 A.U.vm := wtrans (s := s.setVm vm0) hZ Y.warmed
    exact ⟨by show (Jvm.Cond.and _ .tt).before a A.U = true; rw [Cond.before_and, mv hU wc]; rfl, mv hU wc, mv hU wz, hp.2.2.1, hp.2.2.2⟩
  · intro m meth c A a g mk Y hp
    exact ⟨hp.1, wtrans (s := s.setVm vm0) hZ Y.warmed, hp.2.1, (CHv.at Y hZ hEL H).1⟩
  · intro _ _ _ _ hq
    obtain ⟨v, L, h1, h2, h3⟩ := hq
    exact ⟨L, _, _, h3, rfl, rfl, v, h1, h2⟩
  · intro m meth c A a g mk v t L k n Y hp _ _ hq
    obtain ⟨e1, e2, v', e3, e4⟩ := hq
    cases e3; subst e1 e2
    exact ⟨L, e4, rfl, rfl, rfl⟩
abbrev EL1 : List (String × Nat) := [("java/lang/String", 7)]
abbrev Rm (f c s l : Nat) : Room := { frames := f, cells := c, slots := s, locals := l }
abbrev mN0 : MethodName := ⟨"java/lang/StringUTF16", "getChar", "([BI)C"⟩
abbrev mN1 : MethodName := ⟨"java/lang/StringUTF16", "putChar", "([BII)V"⟩
abbrev mN2 : MethodName := ⟨"java/lang/StringUTF16", "newBytesLength", "(I)I"⟩
abbrev mN3 : MethodName := ⟨"java/lang/StringUTF16", "newBytesFor", "(I)[B"⟩
abbrev mN4 : MethodName := ⟨"java/lang/StringUTF16", "compress", "([CI[BII)I"⟩
abbrev mN5 : MethodName := ⟨"java/lang/StringUTF16", "toBytes", "([CII)[B"⟩
abbrev mN6 : MethodName := ⟨"java/lang/StringUTF16", "compress", "([CII)[B"⟩
abbrev mN7 : MethodName := ⟨"java/lang/StringUTF16", "coderFromArrayLen", "([BI)B"⟩
abbrev mN8 : MethodName := ⟨"java/lang/String", "<init>", "([CIILjava/lang/Void;)V"⟩
abbrev mN9 : MethodName := ⟨"java/lang/String", "<init>", "([C)V"⟩
abbrev mN10 : MethodName := ⟨"java/lang/String", "coder", "()B"⟩
abbrev mN11 : MethodName := ⟨"java/lang/String", "isLatin1", "()Z"⟩
abbrev mN12 : MethodName := ⟨"java/lang/String", "length", "()I"⟩
abbrev mN13 : MethodName := ⟨"java/lang/Character", "isHighSurrogate", "(C)Z"⟩
abbrev mN14 : MethodName := ⟨"java/lang/Character", "isLowSurrogate", "(C)Z"⟩
abbrev mN15 : MethodName := ⟨"java/lang/Math", "max", "(II)I"⟩
abbrev mN16 : MethodName := ⟨"java/lang/Math", "min", "(II)I"⟩
abbrev mN17 : MethodName := ⟨"jdk/internal/util/Preconditions", "checkFromToIndex", "(IIILjava/util/function/BiFunction;)I"⟩
abbrev mN18 : MethodName := ⟨"java/util/Objects", "checkFromToIndex", "(III)I"⟩
abbrev mN19 : MethodName := ⟨"java/lang/String", "checkBoundsBeginEnd", "(III)V"⟩
abbrev mN20 : MethodName := ⟨"java/lang/StringUTF16", "length", "([B)I"⟩
abbrev mN21 : MethodName := ⟨"java/lang/StringUTF16", "checkBoundsBeginEnd", "(II[B)V"⟩
abbrev mN22 : MethodName := ⟨"java/lang/StringLatin1", "indexOfChar", "([BIII)I"⟩
abbrev mN23 : MethodName := ⟨"java/lang/StringUTF16", "indexOfCharUnsafe", "([BIII)I"⟩
abbrev mN24 : MethodName := ⟨"java/lang/StringUTF16", "codePointCount", "([BIIZ)I"⟩
abbrev mN25 : MethodName := ⟨"java/lang/StringUTF16", "codePointCount", "([BII)I"⟩
abbrev mN26 : MethodName := ⟨"java/lang/StringLatin1", "canEncode", "(I)Z"⟩
abbrev mN27 : MethodName := ⟨"java/lang/StringLatin1", "indexOf", "([BIII)I"⟩
abbrev mN28 : MethodName := ⟨"java/lang/StringUTF16", "indexOfChar", "([BIII)I"⟩
abbrev mN29 : MethodName := ⟨"java/lang/StringUTF16", "indexOf", "([BIII)I"⟩
abbrev mN30 : MethodName := ⟨"java/lang/String", "indexOf", "(II)I"⟩
abbrev mN31 : MethodName := ⟨"java/lang/String", "indexOf", "(I)I"⟩
abbrev mN32 : MethodName := ⟨"java/lang/String", "codePointCount", "(II)I"⟩
abbrev mN33 : MethodName := ⟨"java/lang/String", "isEmpty", "()Z"⟩
abbrev mN34 : MethodName := ⟨"com/example/coterie/coterie/job/Job", "isWellFormedKey", "(Ljava/lang/String;)Z"⟩
abbrev mN35 : MethodName := ⟨"com/example/coterie/coterie/job/JobIsWellFormedKeyPinLaw", "pick", "(I)C"⟩
abbrev mN36 : MethodName := ⟨"com/example/coterie/coterie/job/JobIsWellFormedKeyPinLaw", "pair", "(CC)I"⟩
abbrev mN37 : MethodName := ⟨"com/example/coterie/coterie/job/JobIsWellFormedKeyPinLaw", "shortKey", "(ICCCC)Ljava/lang/String;"⟩
abbrev mN38 : MethodName := ⟨"com/example/coterie/coterie/job/JobIsWellFormedKeyPinLaw", "longKey", "(CCCC)Ljava/lang/String;"⟩
abbrev SAD (Z : State) : Prop := Sta Z Z.heap "java/lang/StringUTF16" "$assertionsDisabled" "Z" (.int (1 : Int32))
abbrev SHI (Z : State) : Prop := Sta Z Z.heap "java/lang/StringUTF16" "HI_BYTE_SHIFT" "I" (.int (0 : Int32))
abbrev SLO (Z : State) : Prop := Sta Z Z.heap "java/lang/StringUTF16" "LO_BYTE_SHIFT" "I" (.int (8 : Int32))
abbrev SCS (Z : State) (c : Int32) : Prop := Sta Z Z.heap "java/lang/String" "COMPACT_STRINGS" "Z" (.int c)

abbrev SFM (Z : State) (v : Value) : Prop := Sta Z Z.heap "jdk/internal/util/Preconditions" "SIOOBE_FORMATTER" "Ljava/util/function/BiFunction;" v
abbrev vI (i : Int32) : Slot := .val (.int i)
abbrev vR (a : Addr) : Slot := .val (.ref a)
abbrev SS (p : Program) (e : Env) (below : List Frame) (T : State) (m : MethodId) (pc : Nat) (ls : Array Slot) (st : List Value) (t : State) : Prop := Steps p.tables e below (T.setTop (mkF m pc ls st)) t
abbrev cD0 := jdk_52_method_5_code
abbrev cD1 := jdk_52_method_4_code
abbrev cD2 := jdk_52_method_3_code
abbrev cD3 := jdk_52_method_2_code
abbrev cD4 := jdk_52_method_21_code
abbrev cD5 := jdk_52_method_14_code
abbrev cD6 := jdk_52_method_16_code
abbrev cD7 := jdk_52_method_15_code
abbrev cD8 := jdk_42_method_149_code
abbrev cD9 := jdk_42_method_3_code
abbrev cD10 := jdk_42_method_152_code
abbrev cD11 := jdk_42_method_154_code
abbrev cD12 := jdk_42_method_54_code
abbrev cD13 := jdk_89_method_14_code
abbrev cD14 := jdk_89_method_15_code
abbrev cD15 := jdk_29_method_65_code
abbrev cD16 := jdk_29_method_69_code
abbrev cD17 := jdk_41_method_12_code
abbrev cD18 := jdk_31_method_18_code
abbrev cD19 := jdk_42_method_158_code
abbrev cD20 := jdk_52_method_6_code
abbrev cD21 := jdk_52_method_93_code
abbrev cD22 := jdk_43_method_23_code
abbrev cD23 := jdk_52_method_48_code
abbrev cD24 := jdk_52_method_11_code
abbrev cD25 := jdk_52_method_12_code
abbrev cD26 := jdk_43_method_4_code
abbrev cD27 := jdk_43_method_22_code
abbrev cD28 := jdk_52_method_47_code
abbrev cD29 := jdk_52_method_40_code
abbrev cD30 := jdk_42_method_80_code
abbrev cD31 := jdk_42_method_79_code
abbrev cD32 := jdk_42_method_59_code
abbrev cD33 := jdk_42_method_55_code
abbrev cD34 := prog_13_method_4_code
abbrev cD35 := method_2_code
abbrev cD36 := method_3_code
abbrev cD37 := method_4_code
abbrev cD38 := method_5_code
theorem d14_0 : decode cD0 0 = .ok (.getstatic 44, 3) := by decide +kernel
theorem d14_3 : decode cD0 3 = .ok (.ifCond .ne 25, 3) := by decide +kernel
theorem d14_28 : decode cD0 28 = .ok (.iload_n 1, 1) := by decide +kernel
theorem d14_29 : decode cD0 29 = .ok (.iconst 1, 1) := by decide +kernel
theorem d14_30 : decode cD0 30 = .ok (.ishl, 1) := by decide +kernel
theorem d14_31 : decode cD0 31 = .ok (.istore_n 1, 1) := by decide +kernel
theorem d14_32 : decode cD0 32 = .ok (.aload_n 0, 1) := by decide +kernel
theorem d14_33 : decode cD0 33 = .ok (.iload_n 1, 1) := by decide +kernel
theorem d14_34 : decode cD0 34 = .ok (.iinc 1 1, 3) := by decide +kernel
theorem d14_37 : decode cD0 37 = .ok (.baload, 1) := by decide +kernel
theorem d14_38 : decode cD0 38 = .ok (.sipush 255, 3) := by decide +kernel
theorem d14_41 : decode cD0 41 = .ok (.iand, 1) := by decide +kernel
theorem d14_42 : decode cD0 42 = .ok (.getstatic 59, 3) := by decide +kernel
theorem d14_45 : decode cD0 45 = .ok (.ishl, 1) := by decide +kernel
theorem d14_46 : decode cD0 46 = .ok (.aload_n 0, 1) := by decide +kernel
theorem d14_47 : decode cD0 47 = .ok (.iload_n 1, 1) := by decide +kernel
theorem d14_48 : decode cD0 48 = .ok (.baload, 1) := by decide +kernel
theorem d14_49 : decode cD0 49 = .ok (.sipush 255, 3) := by decide +kernel
theorem d14_52 : decode cD0 52 = .ok (.iand, 1) := by decide +kernel
theorem d14_53 : decode cD0 53 = .ok (.getstatic 63, 3) := by decide +kernel
theorem d14_56 : decode cD0 56 = .ok (.ishl, 1) := by decide +kernel
theorem d14_57 : decode cD0 57 = .ok (.ior, 1) := by decide +kernel
theorem d14_58 : decode cD0 58 = .ok (.i2c, 1) := by decide +kernel
theorem d14_59 : decode cD0 59 = .ok (.ireturn, 1) := by decide +kernel
theorem pn_14 : plainName "java/lang/StringUTF16" = true := by first | (simp [plainName, overriddenIn]; done) | decide +kernel
theorem ef_rmGetChar (m : MethodId) (y0 : Addr) (y1 : Int32) : entryFrame m #[(.ref y0), (.int y1)] 2 = (mkF m 0 #[vR y0, vI y1] []) := by first | (simp [entryFrame, mkF, argsToLocals, Value.category]; done) | rfl
def Q_rmGetChar (Z : State) (a1 : Addr) (i : Nat) (k1 : ClassId) (z1 : Int32) (vs : List Value) (u w : Int32) (h0 : Heap) (n0 : Nat) (v : Option Value) (h : Heap) (L : List Loc) : Prop := v = some (.int ((((u &&& (255 : Int32)) <<< ((0 : Int32) &&& 31)) ||| ((w &&& (255 : Int32)) <<< ((8 : Int32) &&& 31))).toUInt32.toUInt16.toUInt32.toInt32)) ∧ Fr n0 L ∧ h = h0
set_option maxRecDepth 65536 in
set_option maxHeartbeats 40000000 in
theorem rmGetChar (l : Launch) (Z : State) (a0 : Array Value) (hw : ∀ d ∈ tables_1, d.before a0 Z = true) (ws : List Jvm.Cond) (a1 : Addr) (i : Nat) (k1 : ClassId) (z1 : Int32) (vs : List Value) (u w : Int32) (h0 : Heap) (n0 : Nat) (O0 : Old Z n0 h0) (S_AD : SAD Z) (S_HI : SHI Z) (S_LO : SLO Z) (V1 : Arv Z h0 a1 k1 .byte z1 vs (.int 0)) (hi : i < 2 ^ 29) (hz0 : Int32.ofNat (2 * i) < z1) (hz1 : Int32.ofNat (2 * i + 1) < z1) (hu : vs.getD (2 * i) (.int 0) = .int u) (hw1 : vs.getD (2 * i + 1) (.int 0) = .int w) :
  MetFree l mN0 (head1 (Jvm.Cond.code mN0 jdk_52_method_5_code 2 (some .char) :: ws) (Rm 0 0 0 0)) (fun a U => a = #[(.ref a1), (.int (Int32.ofNat i))] ∧ Z.Warmed39 U.vm ∧ U.heap = h0) (fun _ _ _ _ _ => True) (fun _ U o U' => ∃ v L, o = .returned v ∧ Q_rmGetChar Z a1 i k1 z1 vs u w h0 n0 v U'.heap L ∧ FrameEnd U o U' L (Rm 0 0 0 0).cells (Rm 0 0 0 0).slots) := by
 refine MetFree.of_bodySF (plainFor_of_name pn_14) hisR ?_
 intro p e s m args below meth c s₁ Bd hml0 hP hK
 obtain ⟨rfl, hZ, hh⟩ := hP
 have hx := Bd.exec
 have hby := Bd.bytes
 have hml : c.maxLocals = 2 := hml0
 have hown : s.vm.findClass "java/lang/StringUTF16" = some m.cls := findClass_of_methodNamed Bd.named
 have hnm := (name_of_methodNamed Bd.named Bd.method).1
 have X0 : Stand p l e (Rm 0 0 0 0) s m #[(.ref a1), (.int (Int32.ofNat i))] below meth c s₁ [] 0 0 := Stand.of_body Bd
 have e0 : s₁.heap = h0 := by rw [← hh, Bd.state]; rfl
 have N0 := Fr.nil n0
 have hn0 : n0 ≤ h0.size := O0.1 ▸ O0.2.1
 have pre0 : ∀ t, SS p e below s₁ m 0 #[vR a1, vI (Int32.ofNat i)] [] t → Steps p.tables e below (s₁.setTop (entryFrame m #[(.ref a1), (.int (Int32.ofNat i))] 2)) t := fun t k => castTop (ef_rmGetChar m a1 ((Int32.ofNat i))) k
 obtain ⟨T101, X101, e101, st101⟩ := getS2 X0 hx hZ hown (host := "") (Or.inl (tw hw 61 rfl)) Via.refl e0 (Sta.ext O0.2 S_AD) (g := (mkF m 0 #[vR a1, vI (Int32.ofNat i)] [])) rfl (hb hby d14_0)
 have hr102 : ((Int32.ofNat i) <<< ((1 : Int32) &&& 31)) = (Int32.ofNat (2 * i)) := own_shl1 (by omega)
 have hr103 : ((Int32.ofNat (2 * i)) + (1 : Int32)) = (Int32.ofNat (2 * i + 1)) := own_succ _
 obtain ⟨cl104, Ar104, q104, S104, Nn104, H104, G104⟩ := id V1
 have hat104 : cl104.slots[((Int32.ofNat (2 * i))).toNatClampNeg]? = some (.int u) := (Has.at H104 (inb_of S104 ⟨own_nn (by omega), hz0⟩) (by rw [own_nat (by omega)]; exact hu))
 obtain ⟨T105, X105, e105, st105⟩ := getS2 X101 hx hZ hown (host := "") (Or.inl (tw hw 62 rfl)) Via.refl e101 (Sta.ext O0.2 S_HI) (g := (mkF m 42 #[vR a1, vI (Int32.ofNat (2 * i + 1))] [(.int (u &&& (255 : Int32)))])) rfl (hb hby d14_42)
 obtain ⟨cl106, Ar106, q106, S106, Nn106, H106, G106⟩ := id V1
 have hat106 : cl106.slots[((Int32.ofNat (2 * i + 1))).toNatClampNeg]? = some (.int w) := (Has.at H106 (inb_of S106 ⟨own_nn (by omega), hz1⟩) (by rw [own_nat (by omega)]; exact hw1))
 obtain ⟨T107, X107, e107, st107⟩ := getS2 X105 hx hZ hown (host := "") (Or.inl (tw hw 63 rfl)) Via.refl e105 (Sta.ext O0.2 S_LO) (g := (mkF m 53 #[vR a1, vI (Int32.ofNat (2 * i + 1))] [(.int (w &&& (255 : Int32))), (.int ((u &&& (255 : Int32)) <<< ((0 : Int32) &&& 31)))])) rfl (hb hby d14_53)
 obtain ⟨fs, hr, hrun, hended, hW, hsame⟩ := X107.leave (v := some (.int (nar .char ((((u &&& (255 : Int32)) <<< ((0 : Int32) &&& 31)) ||| ((w &&& (255 : Int32)) <<< ((8 : Int32) &&& 31))).toUInt32.toUInt16.toUInt32.toInt32)))) (fun h => by rw [Bd.returns] at h; cases h)
 refine ⟨_, _, pre0 _ ?_, hrun, hended, _, _, rfl, ?_, ⟨_, rfl⟩, hW, hsame.mono (by decide) (by decide)⟩
 ·skip
  show SS p e below s₁ m 0 #[vR a1, vI (Int32.ofNat i)] [] _
  refine st101 _ ?_
  refine XS.ifYes X101.here hx rfl (pc0 := 3) (pc' := 28) rfl (hb hby d14_3) rfl ((if0 _ _).trans (feq (by decide : ¬ ((1 : Int32) = (0 : Int32)))).2) (by decide) (by decide) ?_
  refine XS.iloadN X101.here hx rfl (hb hby d14_28) rfl ?_
  refine XS.iconst X101.here hx rfl (hb hby d14_29) ?_
  show SS p e below T101 m 30 #[vR a1, vI (Int32.ofNat i)] [(.int 1), (.int (Int32.ofNat i))] _
  refine XS.ishl X101.here hx rfl (hb hby d14_30) rfl ?_
  show SS p e below T101 m 31 #[vR a1, vI (Int32.ofNat i)] [(.int ((Int32.ofNat i) <<< ((1 : Int32) &&& 31)))] _
  rw [hr102]
  refine XS.istoreN X101.here hx rfl (hb hby d14_31) rfl (l' := #[vR a1, vI (Int32.ofNat (2 * i))]) rfl ?_
  refine XS.aloadN X101.here hx rfl (hb hby d14_32) rfl rfl ?_
  refine XS.iloadN X101.here hx rfl (hb hby d14_33) rfl ?_
  refine XS.iinc X101.here hx rfl (hb hby d14_34) rfl (l' := #[vR a1, vI ((Int32.ofNat (2 * i)) + (1 : Int32))]) rfl ?_
  show SS p e below T101 m 37 #[vR a1, vI ((Int32.ofNat (2 * i)) + (1 : Int32))] [(.int (Int32.ofNat (2 * i))), (.ref a1)] _
  rw [hr103]
  show SS p e below T101 m 37 #[vR a1, vI (Int32.ofNat (2 * i + 1))] [(.int (Int32.ofNat (2 * i))), (.ref a1)] _
  refine X101.baloadBytes hx (j := (Int32.ofNat (2 * i))) (v := (.int u)) (by rw [e101]; exact Ar104.1) (State.isArrayOf_alike hZ.alike Ar104.2.1) Ar104.2.2 (inb_of S104 ⟨own_nn (by omega), hz0⟩) hat104 (g := (mkF m 37 #[vR a1, vI (Int32.ofNat (2 * i + 1))] [(.int (Int32.ofNat (2 * i))), (.ref a1)])) rfl rfl (hb hby d14_37) _ ?_
  refine XS.sipush X101.here hx rfl (hb hby d14_38) ?_
  refine XS.iand X101.here hx rfl (hb hby d14_41) rfl ?_
  show SS p e below T101 m 42 #[vR a1, vI (Int32.ofNat (2 * i + 1))] [(.int (u &&& (255 : Int32)))] _
  refine st105 _ ?_
  show SS p e below T105 m 45 #[vR a1, vI (Int32.ofNat (2 * i + 1))] [(.int 0), (.int (u &&& (255 : Int32)))] _
  refine XS.ishl X105.here hx rfl (hb hby d14_45) rfl ?_
  refine XS.aloadN X105.here hx rfl (hb hby d14_46) rfl rfl ?_
  refine XS.iloadN X105.here hx rfl (hb hby d14_47) rfl ?_
  show SS p e below T105 m 48 #[vR a1, vI (Int32.ofNat (2 * i + 1))] [(.int (Int32.ofNat (2 * i + 1))), (.ref a1), (.int ((u &&& (255 : Int32)) <<< ((0 : Int32) &&& 31)))] _
  refine X105.baloadBytes hx (j := (Int32.ofNat (2 * i + 1))) (v := (.int w)) (by rw [e105]; exact Ar106.1) (State.isArrayOf_alike hZ.alike Ar106.2.1) Ar106.2.2 (inb_of S106 ⟨own_nn (by omega), hz1⟩) hat106 (g := (mkF m 48 #[vR a1, vI (Int32.ofNat (2 * i + 1))] [(.int (Int32.ofNat (2 * i + 1))), (.ref a1), (.int ((u &&& (255 : Int32)) <<< ((0 : Int32) &&& 31)))])) rfl rfl (hb hby d14_48) _ ?_
  refine XS.sipush X105.here hx rfl (hb hby d14_49) ?_
  refine XS.iand X105.here hx rfl (hb hby d14_52) rfl ?_
  show SS p e below T105 m 53 #[vR a1, vI (Int32.ofNat (2 * i + 1))] [(.int (w &&& (255 : Int32))), (.int ((u &&& (255 : Int32)) <<< ((0 : Int32) &&& 31)))] _
  refine st107 _ ?_
  show SS p e below T107 m 56 #[vR a1, vI (Int32.ofNat (2 * i + 1))] [(.int 8), (.int (w &&& (255 : Int32))), (.int ((u &&& (255 : Int32)) <<< ((0 : Int32) &&& 31)))] _
  refine XS.ishl X107.here hx rfl (hb hby d14_56) rfl ?_
  refine XS.ior X107.here hx rfl (hb hby d14_57) rfl ?_
  refine XS.i2c X107.here hx rfl (hb hby d14_58) rfl ?_
  show SS p e below T107 m 59 #[vR a1, vI (Int32.ofNat (2 * i + 1))] [(.int ((((u &&& (255 : Int32)) <<< ((0 : Int32) &&& 31)) ||| ((w &&& (255 : Int32)) <<< ((8 : Int32) &&& 31))).toUInt32.toUInt16.toUInt32.toInt32))] _
  exact retN X107 hx (t := .char) Bd.returns (by simp) (hb hby d14_59) hr
 ·show Q_rmGetChar Z a1 i k1 z1 vs u w h0 n0 _ T107.heap _
  rw [e107]
  exact ⟨congrArg (fun z => some (Value.int z)) (own_c16 _), N0, rfl⟩
theorem d13_0 : decode cD1 0 = .ok (.getstatic 44, 3) := by decide +kernel
theorem d13_3 : decode cD1 3 = .ok (.ifCond .ne 25, 3) := by decide +kernel
theorem d13_28 : decode cD1 28 = .ok (.iload_n 1, 1) := by decide +kernel
theorem d13_29 : decode cD1 29 = .ok (.iconst 1, 1) := by decide +kernel
theorem d13_30 : decode cD1 30 = .ok (.ishl, 1) := by decide +kernel
theorem d13_31 : decode cD1 31 = .ok (.istore_n 1, 1) := by decide +kernel
theorem d13_32 : decode cD1 32 = .ok (.aload_n 0, 1) := by decide +kernel
theorem d13_33 : decode cD1 33 = .ok (.iload_n 1, 1) := by decide +kernel
theorem d13_34 : decode cD1 34 = .ok (.iinc 1 1, 3) := by decide +kernel
theorem d13_37 : decode cD1 37 = .ok (.iload_n 2, 1) := by decide +kernel
theorem d13_38 : decode cD1 38 = .ok (.getstatic 59, 3) := by decide +kernel
theorem d13_41 : decode cD1 41 = .ok (.ishr, 1) := by decide +kernel
theorem d13_42 : decode cD1 42 = .ok (.i2b, 1) := by decide +kernel
theorem d13_43 : decode cD1 43 = .ok (.bastore, 1) := by decide +kernel
theorem d13_44 : decode cD1 44 = .ok (.aload_n 0, 1) := by decide +kernel
theorem d13_45 : decode cD1 45 = .ok (.iload_n 1, 1) := by decide +kernel
theorem d13_46 : decode cD1 46 = .ok (.iload_n 2, 1) := by decide +kernel
theorem d13_47 : decode cD1 47 = .ok (.getstatic 63, 3) := by decide +kernel
theorem d13_50 : decode cD1 50 = .ok (.ishr, 1) := by decide +kernel
theorem d13_51 : decode cD1 51 = .ok (.i2b, 1) := by decide +kernel
theorem d13_52 : decode cD1 52 = .ok (.bastore, 1) := by decide +kernel
theorem d13_53 : decode cD1 53 = .ok (.return_, 1) := by decide +kernel
theorem pn_13 : plainName "java/lang/StringUTF16" = true := by first | (simp [plainName, overriddenIn]; done) | decide +kernel
theorem ef_rmPutChar (m : MethodId) (y0 : Addr) (y1 : Int32) (y2 : Int32) : entryFrame m #[(.ref y0), (.int y1), (.int y2)] 3 = (mkF m 0 #[vR y0, vI y1, vI y2] []) := by first | (simp [entryFrame, mkF, argsToLocals, Value.category]; done) | rfl
def Q_rmPutChar (Z : State) (a1 : Addr) (p3 : Int32) (i : Nat) (k1 : ClassId) (z1 : Int32) (vs : List Value) (h0 : Heap) (n0 : Nat) (v : Option Value) (h : Heap) (L : List Loc) : Prop := v = none ∧ Fr n0 L ∧ Keep h0 h [a1] ∧ Arv Z h a1 k1 .byte z1 ((vs.set (2 * i) (.int (p3.toInt8.toInt32))).set (2 * i + 1) (.int ((p3 >>> ((8 : Int32) &&& 31)).toInt8.toInt32))) (.int 0)
set_option maxRecDepth 65536 in
set_option maxHeartbeats 40000000 in
theorem rmPutChar (l : Launch) (Z : State) (a0 : Array Value) (hw : ∀ d ∈ tables_1, d.before a0 Z = true) (ws : List Jvm.Cond) (a1 : Addr) (p3 : Int32) (i : Nat) (k1 : ClassId) (z1 : Int32) (vs : List Value) (h0 : Heap) (n0 : Nat) (O0 : Old Z n0 h0) (S_AD : SAD Z) (S_HI : SHI Z) (S_LO : SLO Z) (g1 : n0 ≤ a1) (V1 : Arv Z h0 a1 k1 .byte z1 vs (.int 0)) (hi : i < 2 ^ 29) (hz0 : Int32.ofNat (2 * i) < z1) (hz1 : Int32.ofNat (2 * i + 1) < z1) (hl0 : 2 * i < vs.length) (hl1 : 2 * i + 1 < vs.length) :
  MetFree l mN1 (head1 (Jvm.Cond.code mN1 jdk_52_method_4_code 3 none :: ws) (Rm 0 0 0 0)) (fun a U => a = #[(.ref a1), (.int (Int32.ofNat i)), (.int p3)] ∧ Z.Warmed39 U.vm ∧ U.heap = h0) (fun _ _ _ _ _ => True) (fun _ U o U' => ∃ v L, o = .returned v ∧ Q_rmPutChar Z a1 p3 i k1 z1 vs h0 n0 v U'.heap L ∧ FrameEnd U o U' L (Rm 0 0 0 0).cells (Rm 0 0 0 0).slots) := by
 refine MetFree.of_bodySF (plainFor_of_name pn_13) hisR ?_
 intro p e s m args below meth c s₁ Bd hml0 hP hK
 obtain ⟨rfl, hZ, hh⟩ := hP
 have hx := Bd.exec
 have hby := Bd.bytes
 have hml : c.maxLocals = 3 := hml0
 have hown : s.vm.findClass "java/lang/StringUTF16" = some m.cls := findClass_of_methodNamed Bd.named
 have hnm := (name_of_methodNamed Bd.named Bd.method).1
 have X0 : Stand p l e (Rm 0 0 0 0) s m #[(.ref a1), (.int (Int32.ofNat i)), (.int p3)] below meth c s₁ [] 0 0 := Stand.of_body Bd
 have e0 : s₁.heap = h0 := by rw [← hh, Bd.state]; rfl
 have N0 := Fr.nil n0
 have hn0 : n0 ≤ h0.size := O0.1 ▸ O0.2.1
 have pre0 : ∀ t, SS p e below s₁ m 0 #[vR a1, vI (Int32.ofNat i), vI p3] [] t → Steps p.tables e below (s₁.setTop (entryFrame m #[(.ref a1), (.int (Int32.ofNat i)), (.int p3)] 3)) t := fun t k => castTop (ef_rmPutChar m a1 ((Int32.ofNat i)) p3) k
 have lt_a1 : @LT.lt Nat _ a1 h0.size := V1.lt
 obtain ⟨T101, X101, e101, st101⟩ := getS2 X0 hx hZ hown (host := "") (Or.inl (tw hw 61 rfl)) Via.refl e0 (Sta.ext O0.2 S_AD) (g := (mkF m 0 #[vR a1, vI (Int32.ofNat i), vI p3] [])) rfl (hb hby d13_0)
 have hr102 : ((Int32.ofNat i) <<< ((1 : Int32) &&& 31)) = (Int32.ofNat (2 * i)) := own_shl1 (by omega)
 have hr103 : ((Int32.ofNat (2 * i)) + (1 : Int32)) = (Int32.ofNat (2 * i + 1)) := own_succ _
 obtain ⟨T104, X104, e104, st104⟩ := getS2 X101 hx hZ hown (host := "") (Or.inl (tw hw 62 rfl)) Via.refl e101 (Sta.ext O0.2 S_HI) (g := (mkF m 38 #[vR a1, vI (Int32.ofNat (2 * i + 1)), vI p3] [(.int p3), (.int (Int32.ofNat (2 * i))), (.ref a1)])) rfl (hb hby d13_38)
 have hr105 : (p3 >>> ((0 : Int32) &&& 31)) = p3 := own_shr0 _
 obtain ⟨cl106, Ar106, q106, S106, Nn106, H106, G106⟩ := id V1
 obtain ⟨T107, h107, X107, e107, W107, st107⟩ := stB X104 hx hZ e104 Ar106 (j := (Int32.ofNat (2 * i))) (inb_of S106 ⟨own_nn (by omega), hz0⟩) (g := (mkF m 43 #[vR a1, vI (Int32.ofNat (2 * i + 1)), vI p3] [(.int (p3.toInt8.toInt32)), (.int (Int32.ofNat (2 * i))), (.ref a1)])) rfl rfl (hb hby d13_43)
 rw [show nar .byte (p3.toInt8.toInt32) = (p3.toInt8.toInt32) from own_i8 _] at W107
 have V107 : Arv Z h107 a1 k1 .byte z1 (vs.set (2 * i) (.int (p3.toInt8.toInt32))) (.int 0) := Arv.set Ar106 q106 S106 Nn106 H106 G106 (fits_nar_byte _) W107 (2 * i) (own_nat (by omega)) hl0
 have K107 := Keep.of_wr W107
 have N107 := Fr.snoc X107 N0 (by omega : @LE.le Nat _ n0 a1)
 have sz1_K107 := K107.1
 have O108 : Old Z n0 h107 := O0.keep K107 (allS (by omega) (all0))
 obtain ⟨T109, X109, e109, st109⟩ := getS2 X107 hx hZ hown (host := "") (Or.inl (tw hw 63 rfl)) Via.refl e107 (Sta.ext O108.2 S_LO) (g := (mkF m 47 #[vR a1, vI (Int32.ofNat (2 * i + 1)), vI p3] [(.int p3), (.int (Int32.ofNat (2 * i + 1))), (.ref a1)])) rfl (hb hby d13_47)
 obtain ⟨cl110, Ar110, q110, S110, Nn110, H110, G110⟩ := id V107
 obtain ⟨T111, h111, X111, e111, W111, st111⟩ := stB X109 hx hZ e109 Ar110 (j := (Int32.ofNat (2 * i + 1))) (inb_of S110 ⟨own_nn (by omega), hz1⟩) (g := (mkF m 52 #[vR a1, vI (Int32.ofNat (2 * i + 1)), vI p3] [(.int ((p3 >>> ((8 : Int32) &&& 31)).toInt8.toInt32)), (.int (Int32.ofNat (2 * i + 1))), (.ref a1)])) rfl rfl (hb hby d13_52)
 rw [show nar .byte ((p3 >>> ((8 : Int32) &&& 31)).toInt8.toInt32) = ((p3 >>> ((8 : Int32) &&& 31)).toInt8.toInt32) from own_i8 _] at W111
 have V111 : Arv Z h111 a1 k1 .byte z1 ((vs.set (2 * i) (.int (p3.toInt8.toInt32))).set (2 * i + 1) (.int ((p3 >>> ((8 : Int32) &&& 31)).toInt8.toInt32))) (.int 0) := Arv.set Ar110 q110 S110 Nn110 H110 G110 (fits_nar_byte _) W111 (2 * i + 1) (own_nat (by omega)) (by rw [List.length_set]; exact hl1)
 have K111 := Keep.of_wr W111
 have N111 := Fr.snoc X111 N107 (by omega : @LE.le Nat _ n0 a1)
 have sz2_K111 := K111.1
 have KC112 : Keep h0 h107 [a1] := (Keep.refl h0 [a1]).trans K107 (allS (Or.inl (List.mem_of_getElem? (i := 0) rfl)) (all0))
 have KC113 : Keep h0 h111 [a1] := KC112.trans K111 (allS (Or.inl (List.mem_of_getElem? (i := 0) rfl)) (all0))
 obtain ⟨fs, hr, hrun, hended, hW, hsame⟩ := X111.leave (v := none) (fun _ => rfl)
 refine ⟨_, _, pre0 _ ?_, hrun, hended, _, _, rfl, ?_, ⟨_, rfl⟩, hW, hsame.mono (by decide) (by decide)⟩
 ·skip
  show SS p e below s₁ m 0 #[vR a1, vI (Int32.ofNat i), vI p3] [] _
  refine st101 _ ?_
  refine XS.ifYes X101.here hx rfl (pc0 := 3) (pc' := 28) rfl (hb hby d13_3) rfl ((if0 _ _).trans (feq (by decide : ¬ ((1 : Int32) = (0 : Int32)))).2) (by decide) (by decide) ?_
  refine XS.iloadN X101.here hx rfl (hb hby d13_28) rfl ?_
  refine XS.iconst X101.here hx rfl (hb hby d13_29) ?_
  show SS p e below T101 m 30 #[vR a1, vI (Int32.ofNat i), vI p3] [(.int 1), (.int (Int32.ofNat i))] _
  refine XS.ishl X101.here hx rfl (hb hby d13_30) rfl ?_
  show SS p e below T101 m 31 #[vR a1, vI (Int32.ofNat i), vI p3] [(.int ((Int32.ofNat i) <<< ((1 : Int32) &&& 31)))] _
  rw [hr102]
  refine XS.istoreN X101.here hx rfl (hb hby d13_31) rfl (l' := #[vR a1, vI (Int32.ofNat (2 * i)), vI p3]) rfl ?_
  refine XS.aloadN X101.here hx rfl (hb hby d13_32) rfl rfl ?_
  refine XS.iloadN X101.here hx rfl (hb hby d13_33) rfl ?_
  refine XS.iinc X101.here hx rfl (hb hby d13_34) rfl (l' := #[vR a1, vI ((Int32.ofNat (2 * i)) + (1 : Int32)), vI p3]) rfl ?_
  show SS p e below T101 m 37 #[vR a1, vI ((Int32.ofNat (2 * i)) + (1 : Int32)), vI p3] [(.int (Int32.ofNat (2 * i))), (.ref a1)] _
  rw [hr103]
  refine XS.iloadN X101.here hx rfl (hb hby d13_37) rfl ?_
  show SS p e below T101 m 38 #[vR a1, vI (Int32.ofNat (2 * i + 1)), vI p3] [(.int p3), (.int (Int32.ofNat (2 * i))), (.ref a1)] _
  refine st104 _ ?_
  show SS p e below T104 m 41 #[vR a1, vI (Int32.ofNat (2 * i + 1)), vI p3] [(.int 0), (.int p3), (.int (Int32.ofNat (2 * i))), (.ref a1)] _
  refine XS.ishr X104.here hx rfl (hb hby d13_41) rfl ?_
  show SS p e below T104 m 42 #[vR a1, vI (Int32.ofNat (2 * i + 1)), vI p3] [(.int (p3 >>> ((0 : Int32) &&& 31))), (.int (Int32.ofNat (2 * i))), (.ref a1)] _
  rw [hr105]
  refine XS.i2b X104.here hx rfl (hb hby d13_42) rfl ?_
  show SS p e below T104 m 43 #[vR a1, vI (Int32.ofNat (2 * i + 1)), vI p3] [(.int (p3.toInt8.toInt32)), (.int (Int32.ofNat (2 * i))), (.ref a1)] _
  refine st107 _ ?_
  refine XS.aloadN X107.here hx rfl (hb hby d13_44) rfl rfl ?_
  refine XS.iloadN X107.here hx rfl (hb hby d13_45) rfl ?_
  refine XS.iloadN X107.here hx rfl (hb hby d13_46) rfl ?_
  show SS p e below T107 m 47 #[vR a1, vI (Int32.ofNat (2 * i + 1)), vI p3] [(.int p3), (.int (Int32.ofNat (2 * i + 1))), (.ref a1)] _
  refine st109 _ ?_
  show SS p e below T109 m 50 #[vR a1, vI (Int32.ofNat (2 * i + 1)), vI p3] [(.int 8), (.int p3), (.int (Int32.ofNat (2 * i + 1))), (.ref a1)] _
  refine XS.ishr X109.here hx rfl (hb hby d13_50) rfl ?_
  refine XS.i2b X109.here hx rfl (hb hby d13_51) rfl ?_
  show SS p e below T109 m 52 #[vR a1, vI (Int32.ofNat (2 * i + 1)), vI p3] [(.int ((p3 >>> ((8 : Int32) &&& 31)).toInt8.toInt32)), (.int (Int32.ofNat (2 * i + 1))), (.ref a1)] _
  refine st111 _ ?_
  show SS p e below T111 m 53 #[vR a1, vI (Int32.ofNat (2 * i + 1)), vI p3] [] _
  exact X111.returnOut hx Bd.returns (hb hby d13_53) hr
 ·show Q_rmPutChar Z a1 p3 i k1 z1 vs h0 n0 _ T111.heap _
  rw [e111]
  exact ⟨rfl, N111, KC113, V111⟩
theorem d12_0 : decode cD2 0 = .ok (.iload_n 0, 1) := by decide +kernel
theorem d12_1 : decode cD2 1 = .ok (.ifCond .ge 11, 3) := by decide +kernel
theorem d12_12 : decode cD2 12 = .ok (.iload_n 0, 1) := by decide +kernel
theorem d12_13 : decode cD2 13 = .ok (.ldc 20, 2) := by decide +kernel
theorem d12_15 : decode cD2 15 = .ok (.if_icmp .lt 40, 3) := by decide +kernel
theorem d12_55 : decode cD2 55 = .ok (.iload_n 0, 1) := by decide +kernel
theorem d12_56 : decode cD2 56 = .ok (.iconst 1, 1) := by decide +kernel
theorem d12_57 : decode cD2 57 = .ok (.ishl, 1) := by decide +kernel
theorem d12_58 : decode cD2 58 = .ok (.ireturn, 1) := by decide +kernel
theorem pn_12 : plainName "java/lang/StringUTF16" = true := by first | (simp [plainName, overriddenIn]; done) | decide +kernel
theorem ef_rm12 (m : MethodId) (y0 : Int32) : entryFrame m #[(.int y0)] 1 = (mkF m 0 #[vI y0] []) := by first | (simp [entryFrame, mkF, argsToLocals, Value.category]; done) | rfl
def Q_rm12 (Z : State) (n : Nat) (h0 : Heap) (n0 : Nat) (v : Option Value) (h : Heap) (L : List Loc) : Prop := v = some (.int (Int32.ofNat (2 * n))) ∧ Fr n0 L ∧ h = h0
set_option maxRecDepth 65536 in
set_option maxHeartbeats 40000000 in
theorem rm12 (l : Launch) (Z : State) (a0 : Array Value) (hw : ∀ d ∈ tables_1, d.before a0 Z = true) (ws : List Jvm.Cond) (n : Nat) (h0 : Heap) (n0 : Nat) (O0 : Old Z n0 h0) (hn : n < 2 ^ 29) :
  MetFree l mN2 (head1 (Jvm.Cond.code mN2 jdk_52_method_3_code 1 (some .int) :: ws) (Rm 0 0 0 0)) (fun a U => a = #[(.int (Int32.ofNat n))] ∧ Z.Warmed39 U.vm ∧ U.heap = h0) (fun _ _ _ _ _ => True) (fun _ U o U' => ∃ v L, o = .returned v ∧ Q_rm12 Z n h0 n0 v U'.heap L ∧ FrameEnd U o U' L (Rm 0 0 0 0).cells (Rm 0 0 0 0).slots) := by
 refine MetFree.of_bodySF (plainFor_of_name pn_12) hisR ?_
 intro p e s m args below meth c s₁ Bd hml0 hP hK
 obtain ⟨rfl, hZ, hh⟩ := hP
 have hx := Bd.exec
 have hby := Bd.bytes
 have hml : c.maxLocals = 1 := hml0
 have hown : s.vm.findClass "java/lang/StringUTF16" = some m.cls := findClass_of_methodNamed Bd.named
 have hnm := (name_of_methodNamed Bd.named Bd.method).1
 have X0 : Stand p l e (Rm 0 0 0 0) s m #[(.int (Int32.ofNat n))] below meth c s₁ [] 0 0 := Stand.of_body Bd
 have e0 : s₁.heap = h0 := by rw [← hh, Bd.state]; rfl
 have N0 := Fr.nil n0
 have hn0 : n0 ≤ h0.size := O0.1 ▸ O0.2.1
 have pre0 : ∀ t, SS p e below s₁ m 0 #[vI (Int32.ofNat n)] [] t → Steps p.tables e below (s₁.setTop (entryFrame m #[(.int (Int32.ofNat n))] 1)) t := fun t k => castTop (ef_rm12 m ((Int32.ofNat n))) k
 obtain ⟨fs, hr, hrun, hended, hW, hsame⟩ := X0.leave (v := some (.int ((Int32.ofNat n) <<< ((1 : Int32) &&& 31)))) (fun h => by rw [Bd.returns] at h; cases h)
 refine ⟨_, _, pre0 _ ?_, hrun, hended, _, _, rfl, ?_, ⟨_, rfl⟩, hW, hsame.mono (by decide) (by decide)⟩
 ·skip
  show SS p e below s₁ m 0 #[vI (Int32.ofNat n)] [] _
  refine XS.iloadN X0.here hx rfl (hb hby d12_0) rfl ?_
  refine XS.ifYes X0.here hx rfl (pc0 := 1) (pc' := 12) rfl (hb hby d12_1) rfl ((if0 _ _).trans (flt (own_nn (by omega) : ¬ ((Int32.ofNat n) < (0 : Int32)))).2.1) (by decide) (by decide) ?_
  refine XS.iloadN X0.here hx rfl (hb hby d12_12) rfl ?_
  show SS p e below s₁ m 13 #[vI (Int32.ofNat n)] [(.int (Int32.ofNat n))] _
  refine X0.ldcInt hx hown (mvT hZ (tw hw 57 rfl)) (g := (mkF m 13 #[vI (Int32.ofNat n)] [(.int (Int32.ofNat n))])) rfl (hb hby d12_13) _ ?_
  refine XS.icmpYes X0.here hx rfl (pc0 := 15) (pc' := 55) rfl (hb hby d12_15) rfl (tlt (((own_lt (j := 1073741823) (by omega) (by decide)).mpr (by omega)) : (Int32.ofNat n) < (1073741823 : Int32))).1 (by decide) (by decide) ?_
  refine XS.iloadN X0.here hx rfl (hb hby d12_55) rfl ?_
  refine XS.iconst X0.here hx rfl (hb hby d12_56) ?_
  show SS p e below s₁ m 57 #[vI (Int32.ofNat n)] [(.int 1), (.int (Int32.ofNat n))] _
  refine XS.ishl X0.here hx rfl (hb hby d12_57) rfl ?_
  show SS p e below s₁ m 58 #[vI (Int32.ofNat n)] [(.int ((Int32.ofNat n) <<< ((1 : Int32) &&& 31)))] _
  exact retI X0 hx Bd.returns (hb hby d12_58) hr
 ·show Q_rm12 Z n h0 n0 _ s₁.heap _
  rw [e0]
  exact ⟨congrArg (fun z => some (Value.int z)) (own_shl1 (by omega)), N0, rfl⟩
theorem d11_0 : decode cD3 0 = .ok (.iload_n 0, 1) := by decide +kernel
theorem d11_1 : decode cD3 1 = .ok (.invokestatic 11, 3) := by decide +kernel
theorem d11_4 : decode cD3 4 = .ok (.newarray .byte, 2) := by decide +kernel
theorem d11_6 : decode cD3 6 = .ok (.areturn, 1) := by decide +kernel
theorem pn_11 : plainName "java/lang/StringUTF16" = true := by first | (simp [plainName, overriddenIn]; done) | decide +kernel
theorem pd_10 : parseMethodDescriptor "(I)I" = some ⟨[.int], some .int⟩ := by decide +kernel
theorem ef_rm11 (m : MethodId) (y0 : Int32) : entryFrame m #[(.int y0)] 1 = (mkF m 0 #[vI y0] []) := by first | (simp [entryFrame, mkF, argsToLocals, Value.category]; done) | rfl
def Q_rm11 (Z : State) (n : Nat) (h0 : Heap) (n0 : Nat) (v : Option Value) (h : Heap) (L : List Loc) : Prop := ∃ (t : Addr) (kb : ClassId), v = some (.ref t) ∧ Fr n0 L ∧ Keep h0 h [] ∧ h0.size ≤ t ∧ Arv Z h t kb .byte (Int32.ofNat (2 * n)) (List.replicate (2 * n) (.int 0)) (.int 0)
set_option maxRecDepth 65536 in
set_option maxHeartbeats 40000000 in
theorem rm11 (l : Launch) (Z : State) (a0 : Array Value) (hw : ∀ d ∈ tables_1, d.before a0 Z = true) (ws : List Jvm.Cond) (n : Nat) (h0 : Heap) (n0 : Nat) (O0 : Old Z n0 h0) (hn : n ≤ 257) :
  MetFree l mN3 (head1 (Jvm.Cond.code mN3 jdk_52_method_2_code 1 (some (.array .byte)) :: ws) (Rm 1 1 514 20)) (fun a U => a = #[(.int (Int32.ofNat n))] ∧ Z.Warmed39 U.vm ∧ U.heap = h0) (fun _ _ _ _ _ => True) (fun _ U o U' => ∃ v L, o = .returned v ∧ Q_rm11 Z n h0 n0 v U'.heap L ∧ FrameEnd U o U' L (Rm 1 1 514 20).cells (Rm 1 1 514 20).slots) := by
 refine MetFree.of_bodySF (plainFor_of_name pn_11) hisR ?_
 intro p e s m args below meth c s₁ Bd hml0 hP hK
 obtain ⟨rfl, hZ, hh⟩ := hP
 have hx := Bd.exec
 have hby := Bd.bytes
 have hml : c.maxLocals = 1 := hml0
 have hown : s.vm.findClass "java/lang/StringUTF16" = some m.cls := findClass_of_methodNamed Bd.named
 have hnm := (name_of_methodNamed Bd.named Bd.method).1
 have X0 : Stand p l e (Rm 1 1 514 20) s m #[(.int (Int32.ofNat n))] below meth c s₁ [] 0 0 := Stand.of_body Bd
 have e0 : s₁.heap = h0 := by rw [← hh, Bd.state]; rfl
 have N0 := Fr.nil n0
 have hn0 : n0 ≤ h0.size := O0.1 ▸ O0.2.1
 have pre0 : ∀ t, SS p e below s₁ m 0 #[vI (Int32.ofNat n)] [] t → Steps p.tables e below (s₁.setTop (entryFrame m #[(.int (Int32.ofNat n))] 1)) t := fun t k => castTop (ef_rm11 m ((Int32.ofNat n))) k
 obtain ⟨_, _, ⟨T101, L101, k101, n101⟩, -, X101, ⟨Lc101, hQ101, l101, y101, z101⟩, st101⟩ := Jvm.LawKit.callS X0 hx (y := mN2) hown (mvT hZ (tw hw 54 rfl)) (mvT hZ (tw hw 55 rfl)) (mvT hZ (tw hw 43 rfl)) (mvT hZ (tw hw 56 rfl)) (by decide) (backOf (W := 0) (rm12 l Z a0 hw []  n h0 n0 O0 (by omega)) hZ (tw hw 56 rfl) (tw hw 43 rfl) (by decide) (by decide)) (g := (mkF m 1 #[vI (Int32.ofNat n)] [(.int (Int32.ofNat n))])) rfl (by rw [hml]; rfl) (argsL := [(.int (Int32.ofNat n))]) (rest := []) (lenOf pd_10 rfl) rfl (by show 2 * 0 + _ ≤ _; exact Nat.le_of_eq rfl) (hb hby d11_1) (fun _ _ => ⟨rfl, e0, (by decide : 0 + 0 ≤ _), (by decide : 0 + 0 ≤ _)⟩)
 dsimp only [Pt.U, Pt.locs, Pt.cells, Pt.slots] at X101 l101 y101 z101 st101 hQ101
 subst l101 y101 z101
 obtain ⟨rfl, N101q, H101⟩ := hQ101
 have N101 := Fr.app N0 N101q
 obtain ⟨T102, h102, k102, X102, e102, E102, A102, st102⟩ := newP X101 hx hZ (tw hw 24 rfl) H101 (g := (mkF m 4 #[vI (Int32.ofNat n)] [(.int (Int32.ofNat (2 * n)))])) rfl (hb hby d11_4) rfl (own_nn (by omega)) (cap := 514) (by rw [own_nat (by omega)]; omega) (by decide) (by decide) (by decide)
 obtain ⟨b102, g102⟩ : ∃ z, z = h0.size := ⟨_, rfl⟩
 rw [← g102] at A102 st102
 have V102 : Arv Z h102 b102 k102 .byte (Int32.ofNat (2 * n)) (List.replicate (2 * n) (.int 0)) (.int 0) := (Arv.new A102 (own_nn (by omega))).pad (pad_rep [] (.int 0) (2 * n))
 have lt102 : @LT.lt Nat _ b102 h102.size := V102.lt
 have K102 : Keep h0 h102 [] := (Keep.refl _ _).ext E102
 have sz1_K102 := K102.1
 have KC103 : Keep h0 h102 [] := (Keep.refl h0 []).trans K102 (all0)
 obtain ⟨fs, hr, hrun, hended, hW, hsame⟩ := X102.leave (v := some (.ref b102)) (fun h => by rw [Bd.returns] at h; cases h)
 refine ⟨_, _, pre0 _ ?_, hrun, hended, _, _, rfl, ?_, ⟨_, rfl⟩, hW, hsame.mono (by decide) (by decide)⟩
 ·skip
  show SS p e below s₁ m 0 #[vI (Int32.ofNat n)] [] _
  refine XS.iloadN X0.here hx rfl (hb hby d11_0) rfl ?_
  show SS p e below s₁ m 1 #[vI (Int32.ofNat n)] [(.int (Int32.ofNat n))] _
  refine st101 _ ?_
  show SS p e below T101 m 4 #[vI (Int32.ofNat n)] [(.int (Int32.ofNat (2 * n)))] _
  refine st102 _ ?_
  show SS p e below T102 m 6 #[vI (Int32.ofNat n)] [(.ref b102)] _
  exact X102.areturnOut hx rfl Bd.returns rfl (hb hby d11_6) hr
 ·show Q_rm11 Z n h0 n0 _ T102.heap _
  rw [e102]
  exact ⟨_, _, rfl, N101, KC103, (by omega), V102⟩
theorem d9_3 : decode cD4 3 = .ok (.iload 5, 2) := by decide +kernel
theorem d9_5 : decode cD4 5 = .ok (.iload 4, 2) := by decide +kernel
theorem d9_7 : decode cD4 7 = .ok (.if_icmp .ge 37, 3) := by decide +kernel
theorem d9_10 : decode cD4 10 = .ok (.aload_n 0, 1) := by decide +kernel
theorem d9_11 : decode cD4 11 = .ok (.iload_n 1, 1) := by decide +kernel
theorem d9_12 : decode cD4 12 = .ok (.caload, 1) := by decide +kernel
theorem d9_13 : decode cD4 13 = .ok (.istore 6, 2) := by decide +kernel
theorem d9_15 : decode cD4 15 = .ok (.iload 6, 2) := by decide +kernel
theorem d9_17 : decode cD4 17 = .ok (.sipush 255, 3) := by decide +kernel
theorem d9_20 : decode cD4 20 = .ok (.if_icmp .le 6, 3) := by decide +kernel
theorem d9_26 : decode cD4 26 = .ok (.aload_n 2, 1) := by decide +kernel
theorem d9_27 : decode cD4 27 = .ok (.iload_n 3, 1) := by decide +kernel
theorem d9_28 : decode cD4 28 = .ok (.iload 6, 2) := by decide +kernel
theorem d9_30 : decode cD4 30 = .ok (.i2b, 1) := by decide +kernel
theorem d9_31 : decode cD4 31 = .ok (.bastore, 1) := by decide +kernel
theorem d9_32 : decode cD4 32 = .ok (.iinc 1 1, 3) := by decide +kernel
theorem d9_35 : decode cD4 35 = .ok (.iinc 3 1, 3) := by decide +kernel
theorem d9_38 : decode cD4 38 = .ok (.iinc 5 1, 3) := by decide +kernel
theorem d9_41 : decode cD4 41 = .ok (.goto (-38), 3) := by decide +kernel
theorem os_tnCmp5_1 {z0 : Value} {z1 : Value} {z2 : Value} {z3 : Value} {z4 : Value} {z5 : Value} {s6 : Slot} {v : Int32} (h : One s6) : storeLocals #[.val z0, .val z1, .val z2, .val z3, .val z4, .val z5, s6] 6 (.int v) = some #[.val z0, .val z1, .val z2, .val z3, .val z4, .val z5, vI v] := by
 rcases h with rfl | ⟨w, rfl, hw⟩
 ·rfl
 ·cases w <;> first | rfl | (simp [Value.category] at hw)
set_option maxRecDepth 65536 in
set_option maxHeartbeats 40000000 in
theorem tnCmp5 {p : Program} {l : Launch} {e : Env} {s : State} {m : MethodId} {args : Array Value} {below : List Frame} {meth : Method} {c : Code} {T0 : State} {locs : List Loc} {Z : State} {a0 : Array Value} {h0 : Heap} {n0 : Nat} (a1 : Addr) (a3 : Addr) (cs : List Int32) (kC k3 : ClassId) (dC : Value) (j : Nat) (s6 : Slot)
  (X0 : Stand p l e (Rm 0 0 0 0) s m args below meth c T0 locs 0 0) (hx : p.tables.exec = Jvm.exec) (hZ : Z.Warmed39 s.vm) (hw : ∀ d ∈ tables_1, d.before a0 Z = true) (hby : c.code = jdk_52_method_21_code) (hml : c.maxLocals = 7) (hown : s.vm.findClass "java/lang/StringUTF16" = some m.cls) (e0 : T0.heap = h0) (O0 : Old Z n0 h0) (N0 : Fr n0 locs) (V1 : Arv Z h0 a1 kC .char (Int32.ofNat cs.length) (cs.map Value.int) dC) (g3 : n0 ≤ a3) (ne13 : @Ne Nat a1 a3) (hn : cs.length ≤ 257) (V3 : Arv Z h0 a3 k3 .byte (Int32.ofNat cs.length) (latL cs j) (.int 0)) (hj : j < cs.length) (hc : ¬ ((255 : Int32) < (cs.getD j 0))) (hs6 : One s6) :
  ∃ (T' : State) (h' : Heap) (L' : List Loc), Stand p l e (Rm 0 0 0 0) s m args below meth c T' L' 0 0 ∧ T'.heap = h' ∧ Fr n0 L' ∧ Keep h0 h' [a3] ∧ Arv Z h' a3 k3 .byte (Int32.ofNat cs.length) (latL cs (j + 1)) (.int 0) ∧ ∀ target, SS p e below T' m 3 #[vR a1, vI (Int32.ofNat (j + 1)), vR a3, vI (Int32.ofNat (j + 1)), vI (Int32.ofNat cs.length), vI (Int32.ofNat (j + 1)), vI (cs.getD j 0)] [] target → SS p e below T0 m 3 #[vR a1, vI (Int32.ofNat j), vR a3, vI (Int32.ofNat j), vI (Int32.ofNat cs.length), vI (Int32.ofNat j), s6] [] target := by
 have hn0 : n0 ≤ h0.size := O0.1 ▸ O0.2.1
 have pre0 : ∀ t, SS p e below T0 m 3 #[vR a1, vI (Int32.ofNat j), vR a3, vI (Int32.ofNat j), vI (Int32.ofNat cs.length), vI (Int32.ofNat j), s6] [] t → SS p e below T0 m 3 #[vR a1, vI (Int32.ofNat j), vR a3, vI (Int32.ofNat j), vI (Int32.ofNat cs.length), vI (Int32.ofNat j), s6] [] t := fun t k => k
 have hj31 : j < 2 ^ 31 := by omega
 have hn31 : cs.length < 2 ^ 31 := by omega
 have lt_a1 : @LT.lt Nat _ a1 h0.size := V1.lt
 have lt_a3 : @LT.lt Nat _ a3 h0.size := V3.lt
 obtain ⟨cl101, Ar101, q101, S101, Nn101, H101, G101⟩ := id V1
 have hat101 : cl101.slots[((Int32.ofNat j)).toNatClampNeg]? = some (.int (cs.getD j 0)) := (Has.at H101 (inb_of S101 ⟨own_nn hj31, (own_lt hj31 hn31).mpr hj⟩) (own_getD _ hj hj31))
 obtain ⟨cl102, Ar102, q102, S102, Nn102, H102, G102⟩ := id V3
 obtain ⟨T103, h103, X103, e103, W103, st103⟩ := stB X0 hx hZ e0 Ar102 (j := (Int32.ofNat j)) (inb_of S102 ⟨own_nn hj31, (own_lt hj31 hn31).mpr hj⟩) (g := (mkF m 31 #[vR a1, vI (Int32.ofNat j), vR a3, vI (Int32.ofNat j), vI (Int32.ofNat cs.length), vI (Int32.ofNat j), vI (cs.getD j 0)] [(.int ((cs.getD j 0).toInt8.toInt32)), (.int (Int32.ofNat j)), (.ref a3)])) rfl rfl (hb hby d9_31)
 rw [show nar .byte ((cs.getD j 0).toInt8.toInt32) = ((cs.getD j 0).toInt8.toInt32) from own_i8 _] at W103
 have V103 : Arv Z h103 a3 k3 .byte (Int32.ofNat cs.length) ((latL cs j).set j (.int ((cs.getD j 0).toInt8.toInt32))) (.int 0) := Arv.set Ar102 q102 S102 Nn102 H102 G102 (fits_nar_byte _) W103 j (own_nat hj31) (by rw [latL_len cs (Nat.le_of_lt hj)]; exact hj)
 have K103 := Keep.of_wr W103
 have N103 := Fr.snoc X103 N0 (by omega : @LE.le Nat _ n0 a3)
 rw [latL_set cs hj] at V103
 have sz1_K103 := K103.1
 have KC104 : Keep h0 h103 [a3] := (Keep.refl h0 [a3]).trans K103 (allS (Or.inl (List.mem_of_getElem? (i := 0) rfl)) (all0))
 refine ⟨T103, h103, _, X103, e103, N103, KC104, V103, fun target kt => pre0 _ ?_⟩
 show SS p e below T0 m 3 #[vR a1, vI (Int32.ofNat j), vR a3, vI (Int32.ofNat j), vI (Int32.ofNat cs.length), vI (Int32.ofNat j), s6] [] _
 refine XS.iload X0.here hx rfl (hb hby d9_3) rfl ?_
 refine XS.iload X0.here hx rfl (hb hby d9_5) rfl ?_
 refine XS.icmpNo X0.here hx rfl (hb hby d9_7) rfl (tlt ((own_lt hj31 hn31).mpr hj : (Int32.ofNat j) < (Int32.ofNat cs.length))).2.1 ?_
 refine XS.aloadN X0.here hx rfl (hb hby d9_10) rfl rfl ?_
 refine XS.iloadN X0.here hx rfl (hb hby d9_11) rfl ?_
 show SS p e below T0 m 12 #[vR a1, vI (Int32.ofNat j), vR a3, vI (Int32.ofNat j), vI (Int32.ofNat cs.length), vI (Int32.ofNat j), s6] [(.int (Int32.ofNat j)), (.ref a1)] _
 refine X0.caload hx (j := (Int32.ofNat j)) (v := (.int (cs.getD j 0))) (by rw [e0]; exact Ar101.1) (State.isArrayOf_alike hZ.alike Ar101.2.1) Ar101.2.2 (inb_of S101 ⟨own_nn hj31, (own_lt hj31 hn31).mpr hj⟩) hat101 (g := (mkF m 12 #[vR a1, vI (Int32.ofNat j), vR a3, vI (Int32.ofNat j), vI (Int32.ofNat cs.length), vI (Int32.ofNat j), s6] [(.int (Int32.ofNat j)), (.ref a1)])) rfl rfl (hb hby d9_12) _ ?_
 refine XS.istore X0.here hx rfl (hb hby d9_13) rfl (l' := #[vR a1, vI (Int32.ofNat j), vR a3, vI (Int32.ofNat j), vI (Int32.ofNat cs.length), vI (Int32.ofNat j), vI (cs.getD j 0)]) (os_tnCmp5_1 hs6) ?_
 refine XS.iload X0.here hx rfl (hb hby d9_15) rfl ?_
 refine XS.sipush X0.here hx rfl (hb hby d9_17) ?_
 refine XS.icmpYes X0.here hx rfl (pc0 := 20) (pc' := 26) rfl (hb hby d9_20) rfl (flt (hc : ¬ ((255 : Int32) < (cs.getD j 0)))).2.2.2 (by decide) (by decide) ?_
 refine XS.aloadN X0.here hx rfl (hb hby d9_26) rfl rfl ?_
 refine XS.iloadN X0.here hx rfl (hb hby d9_27) rfl ?_
 refine XS.iload X0.here hx rfl (hb hby d9_28) rfl ?_
 refine XS.i2b X0.here hx rfl (hb hby d9_30) rfl ?_
 show SS p e below T0 m 31 #[vR a1, vI (Int32.ofNat j), vR a3, vI (Int32.ofNat j), vI (Int32.ofNat cs.length), vI (Int32.ofNat j), vI (cs.getD j 0)] [(.int ((cs.getD j 0).toInt8.toInt32)), (.int (Int32.ofNat j)), (.ref a3)] _
 refine st103 _ ?_
 refine XS.iinc X103.here hx rfl (hb hby d9_32) rfl (l' := #[vR a1, vI ((Int32.ofNat j) + (1 : Int32)), vR a3, vI (Int32.ofNat j), vI (Int32.ofNat cs.length), vI (Int32.ofNat j), vI (cs.getD j 0)]) rfl ?_
 refine XS.iinc X103.here hx rfl (hb hby d9_35) rfl (l' := #[vR a1, vI ((Int32.ofNat j) + (1 : Int32)), vR a3, vI ((Int32.ofNat j) + (1 : Int32)), vI (Int32.ofNat cs.length), vI (Int32.ofNat j), vI (cs.getD j 0)]) rfl ?_
 refine XS.iinc X103.here hx rfl (hb hby d9_38) rfl (l' := #[vR a1, vI ((Int32.ofNat j) + (1 : Int32)), vR a3, vI ((Int32.ofNat j) + (1 : Int32)), vI (Int32.ofNat cs.length), vI ((Int32.ofNat j) + (1 : Int32)), vI (cs.getD j 0)]) rfl ?_
 refine XS.goto X103.here hx rfl (pc0 := 41) (pc' := 3) rfl (hb hby d9_41) (by decide) (by decide) ?_
 show SS p e below T103 m 3 #[vR a1, vI ((Int32.ofNat j) + (1 : Int32)), vR a3, vI ((Int32.ofNat j) + (1 : Int32)), vI (Int32.ofNat cs.length), vI ((Int32.ofNat j) + (1 : Int32)), vI (cs.getD j 0)] [] _
 rw [own_succ j]
 exact kt
theorem lpCmp5 {p : Program} {l : Launch} {e : Env} {s : State} {m : MethodId} {args : Array Value} {below : List Frame} {meth : Method} {c : Code} {T0 : State} {locs : List Loc} {Z : State} {a0 : Array Value} {h0 : Heap} {n0 : Nat} (a1 : Addr) (a3 : Addr) (cs : List Int32) (kC k3 : ClassId) (dC : Value) (M : Nat)
  (X0 : Stand p l e (Rm 0 0 0 0) s m args below meth c T0 locs 0 0) (hx : p.tables.exec = Jvm.exec) (hZ : Z.Warmed39 s.vm) (hw : ∀ d ∈ tables_1, d.before a0 Z = true) (hby : c.code = jdk_52_method_21_code) (hml : c.maxLocals = 7) (hown : s.vm.findClass "java/lang/StringUTF16" = some m.cls) (e0 : T0.heap = h0) (O0 : Old Z n0 h0) (N0 : Fr n0 locs) (V1 : Arv Z h0 a1 kC .char (Int32.ofNat cs.length) (cs.map Value.int) dC) (g3 : n0 ≤ a3) (ne13 : @Ne Nat a1 a3) (hn : cs.length ≤ 257)
  (V3 : Arv Z h0 a3 k3 .byte (Int32.ofNat cs.length) (latL cs 0) (.int 0)) (hM : M ≤ cs.length) (hpre : ∀ j, j < M → ¬ ((255 : Int32) < cs.getD j 0)) :
  ∀ j, j ≤ M → ∃ (T' : State) (h' : Heap) (L' : List Loc) (s6 : Slot), Stand p l e (Rm 0 0 0 0) s m args below meth c T' L' 0 0 ∧ T'.heap = h' ∧ Fr n0 L' ∧ One s6 ∧ Keep h0 h' [a3] ∧ Arv Z h' a3 k3 .byte (Int32.ofNat cs.length) (latL cs j) (.int 0) ∧ ∀ target, SS p e below T' m 3 #[vR a1, vI (Int32.ofNat j), vR a3, vI (Int32.ofNat j), vI (Int32.ofNat cs.length), vI (Int32.ofNat j), s6] [] target → SS p e below T0 m 3 #[vR a1, vI (Int32.ofNat 0), vR a3, vI (Int32.ofNat 0), vI (Int32.ofNat cs.length), vI (Int32.ofNat 0), .unset] [] target := by
 intro j
 induction j with
 | zero => exact fun _ => ⟨T0, h0, locs, .unset, X0, e0, N0, One.u, Keep.refl _ _, V3, fun _ k => k⟩
 | succ j ih =>
  intro hj
  obtain ⟨T, h, L, s6, X, e1, N, hs6, K, V, st⟩ := ih (by omega)
  obtain ⟨T2, h2, L2, X2, e2, N2, K2, V2, st2⟩ := tnCmp5 a1 a3 cs kC k3 dC j s6 X hx hZ hw hby hml hown e1 (O0.keep K (allS g3 all0)) N (V1.keep K (ninS ne13 nin0)) g3 ne13 hn V (by omega) (hpre j (by omega)) hs6
  exact ⟨T2, h2, L2, _, X2, e2, N2, One.val rfl, K.trans K2 (allS (Or.inl (List.mem_of_getElem? (i := 0) rfl)) all0), V2, fun t k => st _ (st2 _ k)⟩
theorem d9_0 : decode cD4 0 = .ok (.iconst 0, 1) := by decide +kernel
theorem d9_1 : decode cD4 1 = .ok (.istore 5, 2) := by decide +kernel
theorem d9_23 : decode cD4 23 = .ok (.iload 5, 2) := by decide +kernel
theorem d9_25 : decode cD4 25 = .ok (.ireturn, 1) := by decide +kernel
theorem pn_9 : plainName "java/lang/StringUTF16" = true := by first | (simp [plainName, overriddenIn]; done) | decide +kernel
theorem os_rmCmp5_1 {z0 : Value} {z1 : Value} {z2 : Value} {z3 : Value} {z4 : Value} {z5 : Value} {s6 : Slot} {v : Int32} (h : One s6) : storeLocals #[.val z0, .val z1, .val z2, .val z3, .val z4, .val z5, s6] 6 (.int v) = some #[.val z0, .val z1, .val z2, .val z3, .val z4, .val z5, vI v] := by
 rcases h with rfl | ⟨w, rfl, hw⟩
 ·rfl
 ·cases w <;> first | rfl | (simp [Value.category] at hw)
theorem ef_rmCmp5 (m : MethodId) (y0 : Addr) (y1 : Addr) (y2 : Int32) : entryFrame m #[(.ref y0), (.int 0), (.ref y1), (.int 0), (.int y2)] 7 = (mkF m 0 #[vR y0, vI 0, vR y1, vI 0, vI y2, .unset, .unset] []) := by first | (simp [entryFrame, mkF, argsToLocals, Value.category]; done) | rfl
def Q_rmCmp5 (Z : State) (a1 : Addr) (a3 : Addr) (cs : List Int32) (kC k3 : ClassId) (dC : Value) (m1 : Nat) (h0 : Heap) (n0 : Nat) (v : Option Value) (h : Heap) (L : List Loc) : Prop := v = some (.int (Int32.ofNat m1)) ∧ Fr n0 L ∧ Keep h0 h [a3]
set_option maxRecDepth 65536 in
set_option maxHeartbeats 40000000 in
theorem rmCmp5 (l : Launch) (Z : State) (a0 : Array Value) (hw : ∀ d ∈ tables_1, d.before a0 Z = true) (ws : List Jvm.Cond) (a1 : Addr) (a3 : Addr) (cs : List Int32) (kC k3 : ClassId) (dC : Value) (m1 : Nat) (h0 : Heap) (n0 : Nat) (O0 : Old Z n0 h0) (V1 : Arv Z h0 a1 kC .char (Int32.ofNat cs.length) (cs.map Value.int) dC) (g3 : n0 ≤ a3) (ne13 : @Ne Nat a1 a3) (hn : cs.length ≤ 257) (V3 : Arv Z h0 a3 k3 .byte (Int32.ofNat cs.length) (latL cs 0) (.int 0)) (hj : m1 < cs.length) (hpre : ∀ j, j < m1 → ¬ ((255 : Int32) < cs.getD j 0)) (hend : (255 : Int32) < (cs.getD m1 0)) :
  MetFree l mN4 (head1 (Jvm.Cond.code mN4 jdk_52_method_21_code 7 (some .int) :: ws) (Rm 0 0 0 0)) (fun a U => a = #[(.ref a1), (.int 0), (.ref a3), (.int 0), (.int (Int32.ofNat cs.length))] ∧ Z.Warmed39 U.vm ∧ U.heap = h0) (fun _ _ _ _ _ => True) (fun _ U o U' => ∃ v L, o = .returned v ∧ Q_rmCmp5 Z a1 a3 cs kC k3 dC m1 h0 n0 v U'.heap L ∧ FrameEnd U o U' L (Rm 0 0 0 0).cells (Rm 0 0 0 0).slots) := by
 refine MetFree.of_bodySF (plainFor_of_name pn_9) hisR ?_
 intro p e s m args below meth c s₁ Bd hml0 hP hK
 obtain ⟨rfl, hZ, hh⟩ := hP
 have hx := Bd.exec
 have hby := Bd.bytes
 have hml : c.maxLocals = 7 := hml0
 have hown : s.vm.findClass "java/lang/StringUTF16" = some m.cls := findClass_of_methodNamed Bd.named
 have hnm := (name_of_methodNamed Bd.named Bd.method).1
 have X0 : Stand p l e (Rm 0 0 0 0) s m #[(.ref a1), (.int 0), (.ref a3), (.int 0), (.int (Int32.ofNat cs.length))] below meth c s₁ [] 0 0 := Stand.of_body Bd
 have e0 : s₁.heap = h0 := by rw [← hh, Bd.state]; rfl
 have N0 := Fr.nil n0
 have hn0 : n0 ≤ h0.size := O0.1 ▸ O0.2.1
 have pre0 : ∀ t, SS p e below s₁ m 0 #[vR a1, vI 0, vR a3, vI 0, vI (Int32.ofNat cs.length), .unset, .unset] [] t → Steps p.tables e below (s₁.setTop (entryFrame m #[(.ref a1), (.int 0), (.ref a3), (.int 0), (.int (Int32.ofNat cs.length))] 7)) t := fun t k => castTop (ef_rmCmp5 m a1 a3 ((Int32.ofNat cs.length))) k
 have hj31 : m1 < 2 ^ 31 := by omega
 have hn31 : cs.length < 2 ^ 31 := by omega
 have lt_a1 : @LT.lt Nat _ a1 h0.size := V1.lt
 have lt_a3 : @LT.lt Nat _ a3 h0.size := V3.lt
 have pre101 : ∀ t, SS p e below s₁ m 3 #[vR a1, vI 0, vR a3, vI 0, vI (Int32.ofNat cs.length), vI 0, .unset] [] t → Steps p.tables e below (s₁.setTop (entryFrame m #[(.ref a1), (.int 0), (.ref a3), (.int 0), (.int (Int32.ofNat cs.length))] 7)) t := by
  intro t kt
  refine pre0 _ ?_
  show SS p e below s₁ m 0 #[vR a1, vI 0, vR a3, vI 0, vI (Int32.ofNat cs.length), .unset, .unset] [] _
  refine XS.iconst X0.here hx rfl (hb hby d9_0) ?_
  refine XS.istore X0.here hx rfl (hb hby d9_1) rfl (l' := #[vR a1, vI 0, vR a3, vI 0, vI (Int32.ofNat cs.length), vI 0, .unset]) rfl ?_
  exact kt
 obtain ⟨T102, h102, L102, s6, X102, e102, N102, hs6, K102, V102, st102⟩ := lpCmp5 a1 a3 cs kC k3 dC m1 X0 hx hZ hw hby hml hown e0 O0 N0 V1 g3 ne13 hn V3 (Nat.le_of_lt hj) hpre m1 (Nat.le_refl _)
 have sz1_K102 := K102.1
 have C103 := V1.keep K102 (ninS (by omega : @Ne Nat a1 a3) (nin0))
 obtain ⟨cl104, Ar104, q104, S104, Nn104, H104, G104⟩ := id C103
 have hat104 : cl104.slots[((Int32.ofNat m1)).toNatClampNeg]? = some (.int (cs.getD m1 0)) := (Has.at H104 (inb_of S104 ⟨own_nn hj31, (own_lt hj31 hn31).mpr hj⟩) (own_getD _ hj hj31))
 have KC105 : Keep h0 h102 [a3] := (Keep.refl h0 [a3]).trans K102 (allS (Or.inl (List.mem_of_getElem? (i := 0) rfl)) (all0))
 obtain ⟨fs, hr, hrun, hended, hW, hsame⟩ := X102.leave (v := some (.int (Int32.ofNat m1))) (fun h => by rw [Bd.returns] at h; cases h)
 refine ⟨_, _, pre101 _ ?_, hrun, hended, _, _, rfl, ?_, ⟨_, rfl⟩, hW, hsame.mono (by decide) (by decide)⟩
 ·skip
  refine st102 _ ?_
  show SS p e below T102 m 3 #[vR a1, vI (Int32.ofNat m1), vR a3, vI (Int32.ofNat m1), vI (Int32.ofNat cs.length), vI (Int32.ofNat m1), s6] [] _
  refine XS.iload X102.here hx rfl (hb hby d9_3) rfl ?_
  refine XS.iload X102.here hx rfl (hb hby d9_5) rfl ?_
  refine XS.icmpNo X102.here hx rfl (hb hby d9_7) rfl (tlt ((own_lt hj31 hn31).mpr hj : (Int32.ofNat m1) < (Int32.ofNat cs.length))).2.1 ?_
  refine XS.aloadN X102.here hx rfl (hb hby d9_10) rfl rfl ?_
  refine XS.iloadN X102.here hx rfl (hb hby d9_11) rfl ?_
  show SS p e below T102 m 12 #[vR a1, vI (Int32.ofNat m1), vR a3, vI (Int32.ofNat m1), vI (Int32.ofNat cs.length), vI (Int32.ofNat m1), s6] [(.int (Int32.ofNat m1)), (.ref a1)] _
  refine X102.caload hx (j := (Int32.ofNat m1)) (v := (.int (cs.getD m1 0))) (by rw [e102]; exact Ar104.1) (State.isArrayOf_alike hZ.alike Ar104.2.1) Ar104.2.2 (inb_of S104 ⟨own_nn hj31, (own_lt hj31 hn31).mpr hj⟩) hat104 (g := (mkF m 12 #[vR a1, vI (Int32.ofNat m1), vR a3, vI (Int32.ofNat m1), vI (Int32.ofNat cs.length), vI (Int32.ofNat m1), s6] [(.int (Int32.ofNat m1)), (.ref a1)])) rfl rfl (hb hby d9_12) _ ?_
  refine XS.istore X102.here hx rfl (hb hby d9_13) rfl (l' := #[vR a1, vI (Int32.ofNat m1), vR a3, vI (Int32.ofNat m1), vI (Int32.ofNat cs.length), vI (Int32.ofNat m1), vI (cs.getD m1 0)]) (os_rmCmp5_1 hs6) ?_
  refine XS.iload X102.here hx rfl (hb hby d9_15) rfl ?_
  refine XS.sipush X102.here hx rfl (hb hby d9_17) ?_
  refine XS.icmpNo X102.here hx rfl (hb hby d9_20) rfl (tlt (hend : (255 : Int32) < (cs.getD m1 0))).2.2.2 ?_
  refine XS.iload X102.here hx rfl (hb hby d9_23) rfl ?_
  show SS p e below T102 m 25 #[vR a1, vI (Int32.ofNat m1), vR a3, vI (Int32.ofNat m1), vI (Int32.ofNat cs.length), vI (Int32.ofNat m1), vI (cs.getD m1 0)] [(.int (Int32.ofNat m1))] _
  exact retI X102 hx Bd.returns (hb hby d9_25) hr
 ·show Q_rmCmp5 Z a1 a3 cs kC k3 dC m1 h0 n0 _ T102.heap _
  rw [e102]
  exact ⟨rfl, N102, KC105⟩
theorem d10_8 : decode cD5 8 = .ok (.iload 4, 2) := by decide +kernel
theorem d10_10 : decode cD5 10 = .ok (.iload_n 2, 1) := by decide +kernel
theorem d10_11 : decode cD5 11 = .ok (.if_icmp .ge 21, 3) := by decide +kernel
theorem d10_14 : decode cD5 14 = .ok (.aload_n 3, 1) := by decide +kernel
theorem d10_15 : decode cD5 15 = .ok (.iload 4, 2) := by decide +kernel
theorem d10_17 : decode cD5 17 = .ok (.aload_n 0, 1) := by decide +kernel
theorem d10_18 : decode cD5 18 = .ok (.iload_n 1, 1) := by decide +kernel
theorem d10_19 : decode cD5 19 = .ok (.caload, 1) := by decide +kernel
theorem d10_20 : decode cD5 20 = .ok (.invokestatic 111, 3) := by decide +kernel
theorem d10_23 : decode cD5 23 = .ok (.iinc 1 1, 3) := by decide +kernel
theorem d10_26 : decode cD5 26 = .ok (.iinc 4 1, 3) := by decide +kernel
theorem d10_29 : decode cD5 29 = .ok (.goto (-21), 3) := by decide +kernel
theorem pd_11 : parseMethodDescriptor "([BII)V" = some ⟨[(.array .byte), .int, .int], none⟩ := by decide +kernel
set_option maxRecDepth 65536 in
set_option maxHeartbeats 40000000 in
theorem tnToBytes {p : Program} {l : Launch} {e : Env} {s : State} {m : MethodId} {args : Array Value} {below : List Frame} {meth : Method} {c : Code} {T0 : State} {locs : List Loc} {Z : State} {a0 : Array Value} {h0 : Heap} {n0 : Nat} (a1 : Addr) (a3 : Addr) (cs : List Int32) (kC k3 : ClassId) (dC : Value) (j : Nat)
  (X0 : Stand p l e (Rm 2 1 514 60) s m args below meth c T0 locs 1 514) (hx : p.tables.exec = Jvm.exec) (hZ : Z.Warmed39 s.vm) (hw : ∀ d ∈ tables_1, d.before a0 Z = true) (hby : c.code = jdk_52_method_14_code) (hml : c.maxLocals = 5) (hown : s.vm.findClass "java/lang/StringUTF16" = some m.cls) (e0 : T0.heap = h0) (O0 : Old Z n0 h0) (N0 : Fr n0 locs) (S_AD : SAD Z) (S_HI : SHI Z) (S_LO : SLO Z) (V1 : Arv Z h0 a1 kC .char (Int32.ofNat cs.length) (cs.map Value.int) dC) (g3 : n0 ≤ a3) (ne13 : @Ne Nat a1 a3) (hn : cs.length ≤ 257) (V3 : Arv Z h0 a3 k3 .byte (Int32.ofNat (2 * cs.length)) (u16L cs j) (.int 0)) (hj : j < cs.length) :
  ∃ (T' : State) (h' : Heap) (L' : List Loc), Stand p l e (Rm 2 1 514 60) s m args below meth c T' L' 1 514 ∧ T'.heap = h' ∧ Fr n0 L' ∧ Keep h0 h' [a3] ∧ Arv Z h' a3 k3 .byte (Int32.ofNat (2 * cs.length)) (u16L cs (j + 1)) (.int 0) ∧ ∀ target, SS p e below T' m 8 #[vR a1, vI (Int32.ofNat (j + 1)), vI (Int32.ofNat cs.length), vR a3, vI (Int32.ofNat (j + 1))] [] target → SS p e below T0 m 8 #[vR a1, vI (Int32.ofNat j), vI (Int32.ofNat cs.length), vR a3, vI (Int32.ofNat j)] [] target := by
 have hn0 : n0 ≤ h0.size := O0.1 ▸ O0.2.1
 have pre0 : ∀ t, SS p e below T0 m 8 #[vR a1, vI (Int32.ofNat j), vI (Int32.ofNat cs.length), vR a3, vI (Int32.ofNat j)] [] t → SS p e below T0 m 8 #[vR a1, vI (Int32.ofNat j), vI (Int32.ofNat cs.length), vR a3, vI (Int32.ofNat j)] [] t := fun t k => k
 have hj31 : j < 2 ^ 31 := by omega
 have hn31 : cs.length < 2 ^ 31 := by omega
 have lt_a1 : @LT.lt Nat _ a1 h0.size := V1.lt
 have lt_a3 : @LT.lt Nat _ a3 h0.size := V3.lt
 obtain ⟨cl101, Ar101, q101, S101, Nn101, H101, G101⟩ := id V1
 have hat101 : cl101.slots[((Int32.ofNat j)).toNatClampNeg]? = some (.int (cs.getD j 0)) := (Has.at H101 (inb_of S101 ⟨own_nn hj31, (own_lt hj31 hn31).mpr hj⟩) (own_getD _ hj hj31))
 obtain ⟨_, _, ⟨T102, L102, k102, n102⟩, -, X102, ⟨Lc102, hQ102, l102, y102, z102⟩, st102⟩ := Jvm.LawKit.callS X0 hx (y := mN1) hown (mvT hZ (tw hw 58 rfl)) (mvT hZ (tw hw 59 rfl)) (mvT hZ (tw hw 43 rfl)) (mvT hZ (tw hw 60 rfl)) (by decide) (backOf (W := 0) (rmPutChar l Z a0 hw [] a3 (cs.getD j 0) j k3 (Int32.ofNat (2 * cs.length)) (u16L cs j) h0 n0 O0 S_AD S_HI S_LO g3 V3 (by omega) ((own_lt (by omega) (by omega)).mpr (by omega)) ((own_lt (by omega) (by omega)).mpr (by omega)) (by rw [u16L_len cs (Nat.le_of_lt hj)]; omega) (by rw [u16L_len cs (Nat.le_of_lt hj)]; omega)) hZ (tw hw 60 rfl) (tw hw 43 rfl) (by decide) (by decide)) (g := (mkF m 20 #[vR a1, vI (Int32.ofNat j), vI (Int32.ofNat cs.length), vR a3, vI (Int32.ofNat j)] [(.int (cs.getD j 0)), (.int (Int32.ofNat j)), (.ref a3)])) rfl (by rw [hml]; rfl) (argsL := [(.ref a3), (.int (Int32.ofNat j)), (.int (cs.getD j 0))]) (rest := []) (lenOf pd_11 rfl) rfl (by show 2 * 0 + _ ≤ _; exact Nat.le_of_eq rfl) (hb hby d10_20) (fun _ _ => ⟨rfl, e0, (by decide : 1 + 0 ≤ _), (by decide : 514 + 0 ≤ _)⟩)
 dsimp only [Pt.U, Pt.locs, Pt.cells, Pt.slots] at X102 l102 y102 z102 st102 hQ102
 subst l102 y102 z102
 obtain ⟨rfl, N102q, K102, V102⟩ := hQ102
 have sz1_K102 := K102.1
 rw [u16L_set cs hj] at V102
 have N102 := Fr.app N0 N102q
 have KC103 : Keep h0 T102.heap [a3] := (Keep.refl h0 [a3]).trans K102 (allS (Or.inl (List.mem_of_getElem? (i := 0) rfl)) (all0))
 refine ⟨T102, T102.heap, _, X102, rfl, N102, KC103, V102, fun target kt => pre0 _ ?_⟩
 show SS p e below T0 m 8 #[vR a1, vI (Int32.ofNat j), vI (Int32.ofNat cs.length), vR a3, vI (Int32.ofNat j)] [] _
 refine XS.iload X0.here hx rfl (hb hby d10_8) rfl ?_
 refine XS.iloadN X0.here hx rfl (hb hby d10_10) rfl ?_
 refine XS.icmpNo X0.here hx rfl (hb hby d10_11) rfl (tlt ((own_lt hj31 hn31).mpr hj : (Int32.ofNat j) < (Int32.ofNat cs.length))).2.1 ?_
 refine XS.aloadN X0.here hx rfl (hb hby d10_14) rfl rfl ?_
 refine XS.iload X0.here hx rfl (hb hby d10_15) rfl ?_
 refine XS.aloadN X0.here hx rfl (hb hby d10_17) rfl rfl ?_
 refine XS.iloadN X0.here hx rfl (hb hby d10_18) rfl ?_
 show SS p e below T0 m 19 #[vR a1, vI (Int32.ofNat j), vI (Int32.ofNat cs.length), vR a3, vI (Int32.ofNat j)] [(.int (Int32.ofNat j)), (.ref a1), (.int (Int32.ofNat j)), (.ref a3)] _
 refine X0.caload hx (j := (Int32.ofNat j)) (v := (.int (cs.getD j 0))) (by rw [e0]; exact Ar101.1) (State.isArrayOf_alike hZ.alike Ar101.2.1) Ar101.2.2 (inb_of S101 ⟨own_nn hj31, (own_lt hj31 hn31).mpr hj⟩) hat101 (g := (mkF m 19 #[vR a1, vI (Int32.ofNat j), vI (Int32.ofNat cs.length), vR a3, vI (Int32.ofNat j)] [(.int (Int32.ofNat j)), (.ref a1), (.int (Int32.ofNat j)), (.ref a3)])) rfl rfl (hb hby d10_19) _ ?_
 show SS p e below T0 m 20 #[vR a1, vI (Int32.ofNat j), vI (Int32.ofNat cs.length), vR a3, vI (Int32.ofNat j)] [(.int (cs.getD j 0)), (.int (Int32.ofNat j)), (.ref a3)] _
 refine st102 _ ?_
 refine XS.iinc X102.here hx rfl (hb hby d10_23) rfl (l' := #[vR a1, vI ((Int32.ofNat j) + (1 : Int32)), vI (Int32.ofNat cs.length), vR a3, vI (Int32.ofNat j)]) rfl ?_
 refine XS.iinc X102.here hx rfl (hb hby d10_26) rfl (l' := #[vR a1, vI ((Int32.ofNat j) + (1 : Int32)), vI (Int32.ofNat cs.length), vR a3, vI ((Int32.ofNat j) + (1 : Int32))]) rfl ?_
 refine XS.goto X102.here hx rfl (pc0 := 29) (pc' := 8) rfl (hb hby d10_29) (by decide) (by decide) ?_
 show SS p e below T102 m 8 #[vR a1, vI ((Int32.ofNat j) + (1 : Int32)), vI (Int32.ofNat cs.length), vR a3, vI ((Int32.ofNat j) + (1 : Int32))] [] _
 rw [own_succ j]
 exact kt
theorem lpToBytes {p : Program} {l : Launch} {e : Env} {s : State} {m : MethodId} {args : Array Value} {below : List Frame} {meth : Method} {c : Code} {T0 : State} {locs : List Loc} {Z : State} {a0 : Array Value} {h0 : Heap} {n0 : Nat} (a1 : Addr) (a3 : Addr) (cs : List Int32) (kC k3 : ClassId) (dC : Value)
  (X0 : Stand p l e (Rm 2 1 514 60) s m args below meth c T0 locs 1 514) (hx : p.tables.exec = Jvm.exec) (hZ : Z.Warmed39 s.vm) (hw : ∀ d ∈ tables_1, d.before a0 Z = true) (hby : c.code = jdk_52_method_14_code) (hml : c.maxLocals = 5) (hown : s.vm.findClass "java/lang/StringUTF16" = some m.cls) (e0 : T0.heap = h0) (O0 : Old Z n0 h0) (N0 : Fr n0 locs) (S_AD : SAD Z) (S_HI : SHI Z) (S_LO : SLO Z) (V1 : Arv Z h0 a1 kC .char (Int32.ofNat cs.length) (cs.map Value.int) dC) (g3 : n0 ≤ a3) (ne13 : @Ne Nat a1 a3) (hn : cs.length ≤ 257)
  (V3 : Arv Z h0 a3 k3 .byte (Int32.ofNat (2 * cs.length)) (u16L cs 0) (.int 0)) :
  ∀ j, j ≤ cs.length → ∃ (T' : State) (h' : Heap) (L' : List Loc), Stand p l e (Rm 2 1 514 60) s m args below meth c T' L' 1 514 ∧ T'.heap = h' ∧ Fr n0 L' ∧ Keep h0 h' [a3] ∧ Arv Z h' a3 k3 .byte (Int32.ofNat (2 * cs.length)) (u16L cs j) (.int 0) ∧ ∀ target, SS p e below T' m 8 #[vR a1, vI (Int32.ofNat j), vI (Int32.ofNat cs.length), vR a3, vI (Int32.ofNat j)] [] target → SS p e below T0 m 8 #[vR a1, vI (Int32.ofNat 0), vI (Int32.ofNat cs.length), vR a3, vI (Int32.ofNat 0)] [] target := by
 intro j
 induction j with
 | zero => exact fun _ => ⟨T0, h0, locs, X0, e0, N0, Keep.refl _ _, V3, fun _ k => k⟩
 | succ j ih =>
  intro hj
  obtain ⟨T, h, L, X, e1, N, K, V, st⟩ := ih (by omega)
  obtain ⟨T2, h2, L2, X2, e2, N2, K2, V2, st2⟩ := tnToBytes a1 a3 cs kC k3 dC j X hx hZ hw hby hml hown e1 (O0.keep K (allS g3 all0)) N S_AD S_HI S_LO (V1.keep K (ninS ne13 nin0)) g3 ne13 hn V (by omega)
  exact ⟨T2, h2, L2, X2, e2, N2, K.trans K2 (allS (Or.inl (List.mem_of_getElem? (i := 0) rfl)) all0), V2, fun t k => st _ (st2 _ k)⟩
theorem d10_0 : decode cD5 0 = .ok (.iload_n 2, 1) := by decide +kernel
theorem d10_1 : decode cD5 1 = .ok (.invokestatic 107, 3) := by decide +kernel
theorem d10_4 : decode cD5 4 = .ok (.astore_n 3, 1) := by decide +kernel
theorem d10_5 : decode cD5 5 = .ok (.iconst 0, 1) := by decide +kernel
theorem d10_6 : decode cD5 6 = .ok (.istore 4, 2) := by decide +kernel
theorem d10_32 : decode cD5 32 = .ok (.aload_n 3, 1) := by decide +kernel
theorem d10_33 : decode cD5 33 = .ok (.areturn, 1) := by decide +kernel
theorem pn_10 : plainName "java/lang/StringUTF16" = true := by first | (simp [plainName, overriddenIn]; done) | decide +kernel
theorem pd_9 : parseMethodDescriptor "(I)[B" = some ⟨[.int], some (.array .byte)⟩ := by decide +kernel
theorem ef_rmToBytes (m : MethodId) (y0 : Addr) (y1 : Int32) : entryFrame m #[(.ref y0), (.int 0), (.int y1)] 5 = (mkF m 0 #[vR y0, vI 0, vI y1, .unset, .unset] []) := by first | (simp [entryFrame, mkF, argsToLocals, Value.category]; done) | rfl
def Q_rmToBytes (Z : State) (a1 : Addr) (cs : List Int32) (kC : ClassId) (dC : Value) (h0 : Heap) (n0 : Nat) (v : Option Value) (h : Heap) (L : List Loc) : Prop := ∃ (t : Addr) (kb : ClassId), v = some (.ref t) ∧ Fr n0 L ∧ Keep h0 h [] ∧ h0.size ≤ t ∧ Arv Z h t kb .byte (Int32.ofNat (2 * cs.length)) (u16 cs) (.int 0)
set_option maxRecDepth 65536 in
set_option maxHeartbeats 40000000 in
theorem rmToBytes (l : Launch) (Z : State) (a0 : Array Value) (hw : ∀ d ∈ tables_1, d.before a0 Z = true) (ws : List Jvm.Cond) (a1 : Addr) (cs : List Int32) (kC : ClassId) (dC : Value) (h0 : Heap) (n0 : Nat) (O0 : Old Z n0 h0) (S_AD : SAD Z) (S_HI : SHI Z) (S_LO : SLO Z) (V1 : Arv Z h0 a1 kC .char (Int32.ofNat cs.length) (cs.map Value.int) dC) (hn : cs.length ≤ 257) :
  MetFree l mN5 (head1 (Jvm.Cond.code mN5 jdk_52_method_14_code 5 (some (.array .byte)) :: ws) (Rm 2 1 514 60)) (fun a U => a = #[(.ref a1), (.int 0), (.int (Int32.ofNat cs.length))] ∧ Z.Warmed39 U.vm ∧ U.heap = h0) (fun _ _ _ _ _ => True) (fun _ U o U' => ∃ v L, o = .returned v ∧ Q_rmToBytes Z a1 cs kC dC h0 n0 v U'.heap L ∧ FrameEnd U o U' L (Rm 2 1 514 60).cells (Rm 2 1 514 60).slots) := by
 refine MetFree.of_bodySF (plainFor_of_name pn_10) hisR ?_
 intro p e s m args below meth c s₁ Bd hml0 hP hK
 obtain ⟨rfl, hZ, hh⟩ := hP
 have hx := Bd.exec
 have hby := Bd.bytes
 have hml : c.maxLocals = 5 := hml0
 have hown : s.vm.findClass "java/lang/StringUTF16" = some m.cls := findClass_of_methodNamed Bd.named
 have hnm := (name_of_methodNamed Bd.named Bd.method).1
 have X0 : Stand p l e (Rm 2 1 514 60) s m #[(.ref a1), (.int 0), (.int (Int32.ofNat cs.length))] below meth c s₁ [] 0 0 := Stand.of_body Bd
 have e0 : s₁.heap = h0 := by rw [← hh, Bd.state]; rfl
 have N0 := Fr.nil n0
 have hn0 : n0 ≤ h0.size := O0.1 ▸ O0.2.1
 have pre0 : ∀ t, SS p e below s₁ m 0 #[vR a1, vI 0, vI (Int32.ofNat cs.length), .unset, .unset] [] t → Steps p.tables e below (s₁.setTop (entryFrame m #[(.ref a1), (.int 0), (.int (Int32.ofNat cs.length))] 5)) t := fun t k => castTop (ef_rmToBytes m a1 ((Int32.ofNat cs.length))) k
 have hn31 : cs.length < 2 ^ 31 := by omega
 have lt_a1 : @LT.lt Nat _ a1 h0.size := V1.lt
 obtain ⟨_, _, ⟨T101, L101, k101, n101⟩, -, X101, ⟨Lc101, hQ101, l101, y101, z101⟩, st101⟩ := Jvm.LawKit.callS X0 hx (y := mN3) hown (mvT hZ (tw hw 51 rfl)) (mvT hZ (tw hw 52 rfl)) (mvT hZ (tw hw 43 rfl)) (mvT hZ (tw hw 53 rfl)) (by decide) (backOf (W := 0) (rm11 l Z a0 hw []  cs.length h0 n0 O0 (by omega)) hZ (tw hw 53 rfl) (tw hw 43 rfl) (by decide) (by decide)) (g := (mkF m 1 #[vR a1, vI 0, vI (Int32.ofNat cs.length), .unset, .unset] [(.int (Int32.ofNat cs.length))])) rfl (by rw [hml]; rfl) (argsL := [(.int (Int32.ofNat cs.length))]) (rest := []) (lenOf pd_9 rfl) rfl (by show 2 * 0 + _ ≤ _; exact Nat.le_of_eq rfl) (hb hby d10_1) (fun _ _ => ⟨rfl, e0, (by decide : 0 + 1 ≤ _), (by decide : 0 + 514 ≤ _)⟩)
 dsimp only [Pt.U, Pt.locs, Pt.cells, Pt.slots] at X101 l101 y101 z101 st101 hQ101
 subst l101 y101 z101
 obtain ⟨t101, kb101, rfl, N101q, K101, gt101, V101⟩ := hQ101
 have lt101 : @LT.lt Nat _ t101 T101.heap.size := V101.lt
 have sz1_K101 := K101.1
 have N101 := Fr.app N0 N101q
 have pre102 : ∀ t, SS p e below T101 m 8 #[vR a1, vI 0, vI (Int32.ofNat cs.length), vR t101, vI 0] [] t → Steps p.tables e below (s₁.setTop (entryFrame m #[(.ref a1), (.int 0), (.int (Int32.ofNat cs.length))] 5)) t := by
  intro t kt
  refine pre0 _ ?_
  show SS p e below s₁ m 0 #[vR a1, vI 0, vI (Int32.ofNat cs.length), .unset, .unset] [] _
  refine XS.iloadN X0.here hx rfl (hb hby d10_0) rfl ?_
  show SS p e below s₁ m 1 #[vR a1, vI 0, vI (Int32.ofNat cs.length), .unset, .unset] [(.int (Int32.ofNat cs.length))] _
  refine st101 _ ?_
  refine XS.astoreN X101.here hx rfl (hb hby d10_4) rfl rfl (l' := #[vR a1, vI 0, vI (Int32.ofNat cs.length), vR t101, .unset]) rfl ?_
  refine XS.iconst X101.here hx rfl (hb hby d10_5) ?_
  refine XS.istore X101.here hx rfl (hb hby d10_6) rfl (l' := #[vR a1, vI 0, vI (Int32.ofNat cs.length), vR t101, vI 0]) rfl ?_
  exact kt
 have O104 : Old Z n0 T101.heap := O0.keep K101 all0
 have C105 := V1.keep K101 nin0
 obtain ⟨T103, h103, L103, X103, e103, N103, K103, V103, st103⟩ := lpToBytes a1 t101 cs kC kb101 dC X101 hx hZ hw hby hml hown rfl O104 N101 S_AD S_HI S_LO C105 (by omega) (by omega) hn (u16L_zero cs ▸ V101) cs.length (Nat.le_refl _)
 rw [u16L_full] at V103
 have sz2_K103 := K103.1
 have KC106 : Keep h0 T101.heap [] := (Keep.refl h0 []).trans K101 (all0)
 have KC107 : Keep h0 h103 [] := KC106.trans K103 (allS (Or.inr (by omega)) (all0))
 obtain ⟨fs, hr, hrun, hended, hW, hsame⟩ := X103.leave (v := some (.ref t101)) (fun h => by rw [Bd.returns] at h; cases h)
 refine ⟨_, _, pre102 _ ?_, hrun, hended, _, _, rfl, ?_, ⟨_, rfl⟩, hW, hsame.mono (by decide) (by decide)⟩
 ·skip
  refine st103 _ ?_
  show SS p e below T103 m 8 #[vR a1, vI (Int32.ofNat cs.length), vI (Int32.ofNat cs.length), vR t101, vI (Int32.ofNat cs.length)] [] _
  refine XS.iload X103.here hx rfl (hb hby d10_8) rfl ?_
  refine XS.iloadN X103.here hx rfl (hb hby d10_10) rfl ?_
  refine XS.icmpYes X103.here hx rfl (pc0 := 11) (pc' := 32) rfl (hb hby d10_11) rfl (flt (fun q => Nat.lt_irrefl _ ((own_lt hn31 hn31).mp q) : ¬ ((Int32.ofNat cs.length) < (Int32.ofNat cs.length)))).2.1 (by decide) (by decide) ?_
  refine XS.aloadN X103.here hx rfl (hb hby d10_32) rfl rfl ?_
  show SS p e below T103 m 33 #[vR a1, vI (Int32.ofNat cs.length), vI (Int32.ofNat cs.length), vR t101, vI (Int32.ofNat cs.length)] [(.ref t101)] _
  exact X103.areturnOut hx rfl Bd.returns rfl (hb hby d10_33) hr
 ·show Q_rmToBytes Z a1 cs kC dC h0 n0 _ T103.heap _
  rw [e103]
  exact ⟨_, _, rfl, N103, KC107, (by omega), V103⟩
theorem d8_0 : decode cD6 0 = .ok (.iload_n 2, 1) := by decide +kernel
theorem d8_1 : decode cD6 1 = .ok (.newarray .byte, 2) := by decide +kernel
theorem d8_3 : decode cD6 3 = .ok (.astore_n 3, 1) := by decide +kernel
theorem d8_4 : decode cD6 4 = .ok (.aload_n 0, 1) := by decide +kernel
theorem d8_5 : decode cD6 5 = .ok (.iload_n 1, 1) := by decide +kernel
theorem d8_6 : decode cD6 6 = .ok (.aload_n 3, 1) := by decide +kernel
theorem d8_7 : decode cD6 7 = .ok (.iconst 0, 1) := by decide +kernel
theorem d8_8 : decode cD6 8 = .ok (.iload_n 2, 1) := by decide +kernel
theorem d8_9 : decode cD6 9 = .ok (.invokestatic 115, 3) := by decide +kernel
theorem d8_12 : decode cD6 12 = .ok (.istore 4, 2) := by decide +kernel
theorem d8_14 : decode cD6 14 = .ok (.iload 4, 2) := by decide +kernel
theorem d8_16 : decode cD6 16 = .ok (.iload_n 2, 1) := by decide +kernel
theorem d8_17 : decode cD6 17 = .ok (.if_icmp .eq 40, 3) := by decide +kernel
theorem d8_20 : decode cD6 20 = .ok (.aload_n 0, 1) := by decide +kernel
theorem d8_21 : decode cD6 21 = .ok (.iload_n 1, 1) := by decide +kernel
theorem d8_22 : decode cD6 22 = .ok (.iload_n 2, 1) := by decide +kernel
theorem d8_23 : decode cD6 23 = .ok (.invokestatic 119, 3) := by decide +kernel
theorem d8_26 : decode cD6 26 = .ok (.astore 5, 2) := by decide +kernel
theorem d8_28 : decode cD6 28 = .ok (.aload 5, 2) := by decide +kernel
theorem d8_30 : decode cD6 30 = .ok (.iload 4, 2) := by decide +kernel
theorem d8_32 : decode cD6 32 = .ok (.invokestatic 71, 3) := by decide +kernel
theorem d8_35 : decode cD6 35 = .ok (.sipush 255, 3) := by decide +kernel
theorem d8_38 : decode cD6 38 = .ok (.if_icmp .gt 16, 3) := by decide +kernel
theorem d8_54 : decode cD6 54 = .ok (.aload 5, 2) := by decide +kernel
theorem d8_56 : decode cD6 56 = .ok (.areturn, 1) := by decide +kernel
theorem pn_8 : plainName "java/lang/StringUTF16" = true := by first | (simp [plainName, overriddenIn]; done) | decide +kernel
theorem pd_8 : parseMethodDescriptor "([CI[BII)I" = some ⟨[(.array .char), .int, (.array .byte), .int, .int], some .int⟩ := by decide +kernel
theorem pd_7 : parseMethodDescriptor "([CII)[B" = some ⟨[(.array .char), .int, .int], some (.array .byte)⟩ := by decide +kernel
theorem pd_12 : parseMethodDescriptor "([BI)C" = some ⟨[(.array .byte), .int], some .char⟩ := by decide +kernel
theorem ef_rmCmp3 (m : MethodId) (y0 : Addr) (y1 : Int32) : entryFrame m #[(.ref y0), (.int 0), (.int y1)] 6 = (mkF m 0 #[vR y0, vI 0, vI y1, .unset, .unset, .unset] []) := by first | (simp [entryFrame, mkF, argsToLocals, Value.category]; done) | rfl
def Q_rmCmp3 (Z : State) (a1 : Addr) (cs : List Int32) (kC : ClassId) (dC : Value) (m1 : Nat) (h0 : Heap) (n0 : Nat) (v : Option Value) (h : Heap) (L : List Loc) : Prop := ∃ (t : Addr) (kb : ClassId), v = some (.ref t) ∧ Fr n0 L ∧ Keep h0 h [] ∧ h0.size ≤ t ∧ Arv Z h t kb .byte (Int32.ofNat (2 * cs.length)) (u16 cs) (.int 0)
set_option maxRecDepth 65536 in
set_option maxHeartbeats 40000000 in
theorem rmCmp3 (l : Launch) (Z : State) (a0 : Array Value) (hw : ∀ d ∈ tables_1, d.before a0 Z = true) (ws : List Jvm.Cond) (a1 : Addr) (cs : List Int32) (kC : ClassId) (dC : Value) (m1 : Nat) (h0 : Heap) (n0 : Nat) (O0 : Old Z n0 h0) (S_AD : SAD Z) (S_HI : SHI Z) (S_LO : SLO Z) (V1 : Arv Z h0 a1 kC .char (Int32.ofNat cs.length) (cs.map Value.int) dC) (hn : cs.length ≤ 257) (hcs : ∀ c ∈ cs, ¬ c < 0 ∧ ¬ (65535 : Int32) < c) (hj : m1 < cs.length) (hpre : ∀ j, j < m1 → ¬ ((255 : Int32) < cs.getD j 0)) (hend : (255 : Int32) < (cs.getD m1 0)) :
  MetFree l mN6 (head1 (Jvm.Cond.code mN6 jdk_52_method_16_code 6 (some (.array .byte)) :: ws) (Rm 3 2 771 100)) (fun a U => a = #[(.ref a1), (.int 0), (.int (Int32.ofNat cs.length))] ∧ Z.Warmed39 U.vm ∧ U.heap = h0) (fun _ _ _ _ _ => True) (fun _ U o U' => ∃ v L, o = .returned v ∧ Q_rmCmp3 Z a1 cs kC dC m1 h0 n0 v U'.heap L ∧ FrameEnd U o U' L (Rm 3 2 771 100).cells (Rm 3 2 771 100).slots) := by
 refine MetFree.of_bodySF (plainFor_of_name pn_8) hisR ?_
 intro p e s m args below meth c s₁ Bd hml0 hP hK
 obtain ⟨rfl, hZ, hh⟩ := hP
 have hx := Bd.exec
 have hby := Bd.bytes
 have hml : c.maxLocals = 6 := hml0
 have hown : s.vm.findClass "java/lang/StringUTF16" = some m.cls := findClass_of_methodNamed Bd.named
 have hnm := (name_of_methodNamed Bd.named Bd.method).1
 have X0 : Stand p l e (Rm 3 2 771 100) s m #[(.ref a1), (.int 0), (.int (Int32.ofNat cs.length))] below meth c s₁ [] 0 0 := Stand.of_body Bd
 have e0 : s₁.heap = h0 := by rw [← hh, Bd.state]; rfl
 have N0 := Fr.nil n0
 have hn0 : n0 ≤ h0.size := O0.1 ▸ O0.2.1
 have pre0 : ∀ t, SS p e below s₁ m 0 #[vR a1, vI 0, vI (Int32.ofNat cs.length), .unset, .unset, .unset] [] t → Steps p.tables e below (s₁.setTop (entryFrame m #[(.ref a1), (.int 0), (.int (Int32.ofNat cs.length))] 6)) t := fun t k => castTop (ef_rmCmp3 m a1 ((Int32.ofNat cs.length))) k
 have hn31 : cs.length < 2 ^ 31 := by omega
 have lt_a1 : @LT.lt Nat _ a1 h0.size := V1.lt
 obtain ⟨T101, h101, k101, X101, e101, E101, A101, st101⟩ := newP X0 hx hZ (tw hw 24 rfl) e0 (g := (mkF m 1 #[vR a1, vI 0, vI (Int32.ofNat cs.length), .unset, .unset, .unset] [(.int (Int32.ofNat cs.length))])) rfl (hb hby d8_1) rfl (own_nn hn31) (cap := 257) (by rw [own_nat hn31]; omega) (by decide) (by decide) (by decide)
 obtain ⟨b101, g101⟩ : ∃ z, z = h0.size := ⟨_, rfl⟩
 rw [← g101] at A101 st101
 have V101 : Arv Z h101 b101 k101 .byte (Int32.ofNat cs.length) (List.replicate cs.length (.int 0)) (.int 0) := (Arv.new A101 (own_nn hn31)).pad (pad_rep [] (.int 0) cs.length)
 have lt101 : @LT.lt Nat _ b101 h101.size := V101.lt
 have K101 : Keep h0 h101 [] := (Keep.refl _ _).ext E101
 have sz1_K101 := K101.1
 have C103 := V1.keep K101 nin0
 have O104 : Old Z n0 h101 := O0.keep K101 all0
 obtain ⟨_, _, ⟨T102, L102, k102, n102⟩, -, X102, ⟨Lc102, hQ102, l102, y102, z102⟩, st102⟩ := Jvm.LawKit.callS X101 hx (y := mN4) hown (mvT hZ (tw hw 45 rfl)) (mvT hZ (tw hw 46 rfl)) (mvT hZ (tw hw 43 rfl)) (mvT hZ (tw hw 47 rfl)) (by decide) (backOf (W := 0) (rmCmp5 l Z a0 hw [] a1 b101 cs kC k101 dC m1 h101 n0 O104 C103 (by omega : @LE.le Nat _ n0 b101) (by omega) hn (latL_zero cs ▸ V101) hj hpre hend) hZ (tw hw 47 rfl) (tw hw 43 rfl) (by decide) (by decide)) (g := (mkF m 9 #[vR a1, vI 0, vI (Int32.ofNat cs.length), vR b101, .unset, .unset] [(.int (Int32.ofNat cs.length)), (.int 0), (.ref b101), (.int 0), (.ref a1)])) rfl (by rw [hml]; rfl) (argsL := [(.ref a1), (.int 0), (.ref b101), (.int 0), (.int (Int32.ofNat cs.length))]) (rest := []) (lenOf pd_8 rfl) rfl (by show 2 * 0 + _ ≤ _; exact Nat.le_of_eq rfl) (hb hby d8_9) (fun _ _ => ⟨rfl, e101, (by decide : 1 + 0 ≤ _), (by decide : 257 + 0 ≤ _)⟩)
 dsimp only [Pt.U, Pt.locs, Pt.cells, Pt.slots] at X102 l102 y102 z102 st102 hQ102
 subst l102 y102 z102
 obtain ⟨rfl, N102q, K102⟩ := hQ102
 have sz2_K102 := K102.1
 have N102 := Fr.app N0 N102q
 have C106 := C103.keep K102 (ninS (by omega : @Ne Nat a1 b101) (nin0))
 have O107 : Old Z n0 T102.heap := O104.keep K102 (allS (by omega) (all0))
 obtain ⟨_, _, ⟨T105, L105, k105, n105⟩, -, X105, ⟨Lc105, hQ105, l105, y105, z105⟩, st105⟩ := Jvm.LawKit.callS X102 hx (y := mN5) hown (mvT hZ (tw hw 48 rfl)) (mvT hZ (tw hw 49 rfl)) (mvT hZ (tw hw 43 rfl)) (mvT hZ (tw hw 50 rfl)) (by decide) (backOf (W := 0) (rmToBytes l Z a0 hw [] a1 cs kC dC T102.heap n0 O107 S_AD S_HI S_LO C106 hn) hZ (tw hw 50 rfl) (tw hw 43 rfl) (by decide) (by decide)) (g := (mkF m 23 #[vR a1, vI 0, vI (Int32.ofNat cs.length), vR b101, vI (Int32.ofNat m1), .unset] [(.int (Int32.ofNat cs.length)), (.int 0), (.ref a1)])) rfl (by rw [hml]; rfl) (argsL := [(.ref a1), (.int 0), (.int (Int32.ofNat cs.length))]) (rest := []) (lenOf pd_7 rfl) rfl (by show 2 * 0 + _ ≤ _; exact Nat.le_of_eq rfl) (hb hby d8_23) (fun _ _ => ⟨rfl, rfl, (by decide : 1 + 1 ≤ _), (by decide : 257 + 514 ≤ _)⟩)
 dsimp only [Pt.U, Pt.locs, Pt.cells, Pt.slots] at X105 l105 y105 z105 st105 hQ105
 subst l105 y105 z105
 obtain ⟨t105, kb105, rfl, N105q, K105, gt105, V105⟩ := hQ105
 have lt105 : @LT.lt Nat _ t105 T105.heap.size := V105.lt
 have sz3_K105 := K105.1
 have N105 := Fr.app N102 N105q
 have O109 : Old Z n0 T105.heap := O107.keep K105 all0
 obtain ⟨_, _, ⟨T108, L108, k108, n108⟩, -, X108, ⟨Lc108, hQ108, l108, y108, z108⟩, st108⟩ := Jvm.LawKit.callS X105 hx (y := mN0) hown (mvT hZ (tw hw 64 rfl)) (mvT hZ (tw hw 65 rfl)) (mvT hZ (tw hw 43 rfl)) (mvT hZ (tw hw 66 rfl)) (by decide) (backOf (W := 0) (rmGetChar l Z a0 hw [] t105 m1 kb105 (Int32.ofNat (2 * cs.length)) (u16 cs) ((cs.getD m1 0).toInt8.toInt32) (((cs.getD m1 0) >>> ((8 : Int32) &&& 31)).toInt8.toInt32) T105.heap n0 O109 S_AD S_HI S_LO V105 (by omega) ((own_lt (by omega) (by omega)).mpr (by omega)) ((own_lt (by omega) (by omega)).mpr (by omega)) (u16_get cs hj).1 (u16_get cs hj).2) hZ (tw hw 66 rfl) (tw hw 43 rfl) (by decide) (by decide)) (g := (mkF m 32 #[vR a1, vI 0, vI (Int32.ofNat cs.length), vR b101, vI (Int32.ofNat m1), vR t105] [(.int (Int32.ofNat m1)), (.ref t105)])) rfl (by rw [hml]; rfl) (argsL := [(.ref t105), (.int (Int32.ofNat m1))]) (rest := []) (lenOf pd_12 rfl) rfl (by show 2 * 0 + _ ≤ _; exact Nat.le_of_eq rfl) (hb hby d8_32) (fun _ _ => ⟨rfl, rfl, (by decide : 2 + 0 ≤ _), (by decide : 771 + 0 ≤ _)⟩)
 dsimp only [Pt.U, Pt.locs, Pt.cells, Pt.slots] at X108 l108 y108 z108 st108 hQ108
 subst l108 y108 z108
 obtain ⟨rfl, N108q, H108⟩ := hQ108
 have N108 := Fr.app N105 N108q
 have hr110 : (StrChars.pairCh (StrChars.lo8 (cs.getD m1 0)) (StrChars.hi8 (cs.getD m1 0))) = (cs.getD m1 0) := StrChars.pair_says (own_rng hcs hj).1 (own_rng hcs hj).2
 have KC111 : Keep h0 h101 [] := (Keep.refl h0 []).trans K101 (all0)
 have KC112 : Keep h0 T102.heap [] := KC111.trans K102 (allS (Or.inr (by omega)) (all0))
 have KC113 : Keep h0 T105.heap [] := KC112.trans K105 (all0)
 obtain ⟨fs, hr, hrun, hended, hW, hsame⟩ := X108.leave (v := some (.ref t105)) (fun h => by rw [Bd.returns] at h; cases h)
 refine ⟨_, _, pre0 _ ?_, hrun, hended, _, _, rfl, ?_, ⟨_, rfl⟩, hW, hsame.mono (by decide) (by decide)⟩
 ·skip
  show SS p e below s₁ m 0 #[vR a1, vI 0, vI (Int32.ofNat cs.length), .unset, .unset, .unset] [] _
  refine XS.iloadN X0.here hx rfl (hb hby d8_0) rfl ?_
  show SS p e below s₁ m 1 #[vR a1, vI 0, vI (Int32.ofNat cs.length), .unset, .unset, .unset] [(.int (Int32.ofNat cs.length))] _
  refine st101 _ ?_
  refine XS.astoreN X101.here hx rfl (hb hby d8_3) rfl rfl (l' := #[vR a1, vI 0, vI (Int32.ofNat cs.length), vR b101, .unset, .unset]) rfl ?_
  refine XS.aloadN X101.here hx rfl (hb hby d8_4) rfl rfl ?_
  refine XS.iloadN X101.here hx rfl (hb hby d8_5) rfl ?_
  refine XS.aloadN X101.here hx rfl (hb hby d8_6) rfl rfl ?_
  refine XS.iconst X101.here hx rfl (hb hby d8_7) ?_
  refine XS.iloadN X101.here hx rfl (hb hby d8_8) rfl ?_
  show SS p e below T101 m 9 #[vR a1, vI 0, vI (Int32.ofNat cs.length), vR b101, .unset, .unset] [(.int (Int32.ofNat cs.length)), (.int 0), (.ref b101), (.int 0), (.ref a1)] _
  refine st102 _ ?_
  refine XS.istore X102.here hx rfl (hb hby d8_12) rfl (l' := #[vR a1, vI 0, vI (Int32.ofNat cs.length), vR b101, vI (Int32.ofNat m1), .unset]) rfl ?_
  refine XS.iload X102.here hx rfl (hb hby d8_14) rfl ?_
  refine XS.iloadN X102.here hx rfl (hb hby d8_16) rfl ?_
  refine XS.icmpNo X102.here hx rfl (hb hby d8_17) rfl (feq (fun q => Nat.ne_of_lt hj ((own_eqn (by omega) hn31).mp q) : ¬ ((Int32.ofNat m1) = (Int32.ofNat cs.length)))).1 ?_
  refine XS.aloadN X102.here hx rfl (hb hby d8_20) rfl rfl ?_
  refine XS.iloadN X102.here hx rfl (hb hby d8_21) rfl ?_
  refine XS.iloadN X102.here hx rfl (hb hby d8_22) rfl ?_
  show SS p e below T102 m 23 #[vR a1, vI 0, vI (Int32.ofNat cs.length), vR b101, vI (Int32.ofNat m1), .unset] [(.int (Int32.ofNat cs.length)), (.int 0), (.ref a1)] _
  refine st105 _ ?_
  refine XS.astore X105.here hx rfl (hb hby d8_26) rfl rfl (l' := #[vR a1, vI 0, vI (Int32.ofNat cs.length), vR b101, vI (Int32.ofNat m1), vR t105]) rfl ?_
  refine XS.aload X105.here hx rfl (hb hby d8_28) rfl rfl ?_
  refine XS.iload X105.here hx rfl (hb hby d8_30) rfl ?_
  show SS p e below T105 m 32 #[vR a1, vI 0, vI (Int32.ofNat cs.length), vR b101, vI (Int32.ofNat m1), vR t105] [(.int (Int32.ofNat m1)), (.ref t105)] _
  refine st108 _ ?_
  show SS p e below T108 m 35 #[vR a1, vI 0, vI (Int32.ofNat cs.length), vR b101, vI (Int32.ofNat m1), vR t105] [(.int (StrChars.pairCh (StrChars.lo8 (cs.getD m1 0)) (StrChars.hi8 (cs.getD m1 0))))] _
  rw [hr110]
  refine XS.sipush X108.here hx rfl (hb hby d8_35) ?_
  refine XS.icmpYes X108.here hx rfl (pc0 := 38) (pc' := 54) rfl (hb hby d8_38) rfl (tlt (hend : (255 : Int32) < (cs.getD m1 0))).2.2.1 (by decide) (by decide) ?_
  refine XS.aload X108.here hx rfl (hb hby d8_54) rfl rfl ?_
  show SS p e below T108 m 56 #[vR a1, vI 0, vI (Int32.ofNat cs.length), vR b101, vI (Int32.ofNat m1), vR t105] [(.ref t105)] _
  exact X108.areturnOut hx rfl Bd.returns rfl (hb hby d8_56) hr
 ·show Q_rmCmp3 Z a1 cs kC dC m1 h0 n0 _ T108.heap _
  rw [H108]
  exact ⟨_, _, rfl, N108, KC113, (by omega), V105⟩
theorem d15_0 : decode cD7 0 = .ok (.iload_n 1, 1) := by decide +kernel
theorem d15_1 : decode cD7 1 = .ok (.aload_n 0, 1) := by decide +kernel
theorem d15_2 : decode cD7 2 = .ok (.arraylength, 1) := by decide +kernel
theorem d15_3 : decode cD7 3 = .ok (.isub, 1) := by decide +kernel
theorem d15_4 : decode cD7 4 = .ok (.bipush 31, 2) := by decide +kernel
theorem d15_6 : decode cD7 6 = .ok (.iushr, 1) := by decide +kernel
theorem d15_7 : decode cD7 7 = .ok (.i2b, 1) := by decide +kernel
theorem d15_8 : decode cD7 8 = .ok (.ireturn, 1) := by decide +kernel
theorem pn_15 : plainName "java/lang/StringUTF16" = true := by first | (simp [plainName, overriddenIn]; done) | decide +kernel
theorem ef_rmCdrLenU (m : MethodId) (y0 : Addr) (y1 : Int32) : entryFrame m #[(.ref y0), (.int y1)] 2 = (mkF m 0 #[vR y0, vI y1] []) := by first | (simp [entryFrame, mkF, argsToLocals, Value.category]; done) | rfl
def Q_rmCdrLenU (Z : State) (a1 : Addr) (cs : List Int32) (k1 : ClassId) (vs : List Value) (h0 : Heap) (n0 : Nat) (v : Option Value) (h : Heap) (L : List Loc) : Prop := v = some (.int 1) ∧ Fr n0 L ∧ h = h0
set_option maxRecDepth 65536 in
set_option maxHeartbeats 40000000 in
theorem rmCdrLenU (l : Launch) (Z : State) (a0 : Array Value) (hw : ∀ d ∈ tables_1, d.before a0 Z = true) (ws : List Jvm.Cond) (a1 : Addr) (cs : List Int32) (k1 : ClassId) (vs : List Value) (h0 : Heap) (n0 : Nat) (O0 : Old Z n0 h0) (V1 : Arv Z h0 a1 k1 .byte (Int32.ofNat (2 * cs.length)) vs (.int 0)) (h0n : 0 < cs.length) (hn : cs.length ≤ 257) :
  MetFree l mN7 (head1 (Jvm.Cond.code mN7 jdk_52_method_15_code 2 (some .byte) :: ws) (Rm 0 0 0 0)) (fun a U => a = #[(.ref a1), (.int (Int32.ofNat cs.length))] ∧ Z.Warmed39 U.vm ∧ U.heap = h0) (fun _ _ _ _ _ => True) (fun _ U o U' => ∃ v L, o = .returned v ∧ Q_rmCdrLenU Z a1 cs k1 vs h0 n0 v U'.heap L ∧ FrameEnd U o U' L (Rm 0 0 0 0).cells (Rm 0 0 0 0).slots) := by
 refine MetFree.of_bodySF (plainFor_of_name pn_15) hisR ?_
 intro p e s m args below meth c s₁ Bd hml0 hP hK
 obtain ⟨rfl, hZ, hh⟩ := hP
 have hx := Bd.exec
 have hby := Bd.bytes
 have hml : c.maxLocals = 2 := hml0
 have hown : s.vm.findClass "java/lang/StringUTF16" = some m.cls := findClass_of_methodNamed Bd.named
 have hnm := (name_of_methodNamed Bd.named Bd.method).1
 have X0 : Stand p l e (Rm 0 0 0 0) s m #[(.ref a1), (.int (Int32.ofNat cs.length))] below meth c s₁ [] 0 0 := Stand.of_body Bd
 have e0 : s₁.heap = h0 := by rw [← hh, Bd.state]; rfl
 have N0 := Fr.nil n0
 have hn0 : n0 ≤ h0.size := O0.1 ▸ O0.2.1
 have pre0 : ∀ t, SS p e below s₁ m 0 #[vR a1, vI (Int32.ofNat cs.length)] [] t → Steps p.tables e below (s₁.setTop (entryFrame m #[(.ref a1), (.int (Int32.ofNat cs.length))] 2)) t := fun t k => castTop (ef_rmCdrLenU m a1 ((Int32.ofNat cs.length))) k
 obtain ⟨cl101, Ar101, q101, S101, Nn101, H101, G101⟩ := id V1
 obtain ⟨fs, hr, hrun, hended, hW, hsame⟩ := X0.leave (v := some (.int (nar .byte (((((Int32.ofNat cs.length) - (Int32.ofNat (2 * cs.length))).toUInt32 >>> ((31 : Int32) &&& 31).toUInt32).toInt32).toInt8.toInt32)))) (fun h => by rw [Bd.returns] at h; cases h)
 refine ⟨_, _, pre0 _ ?_, hrun, hended, _, _, rfl, ?_, ⟨_, rfl⟩, hW, hsame.mono (by decide) (by decide)⟩
 ·skip
  show SS p e below s₁ m 0 #[vR a1, vI (Int32.ofNat cs.length)] [] _
  refine XS.iloadN X0.here hx rfl (hb hby d15_0) rfl ?_
  refine XS.aloadN X0.here hx rfl (hb hby d15_1) rfl rfl ?_
  show SS p e below s₁ m 2 #[vR a1, vI (Int32.ofNat cs.length)] [(.ref a1), (.int (Int32.ofNat cs.length))] _
  refine X0.arraylength hx (by rw [e0]; exact Ar101.1) (State.isArrayOf_alike hZ.alike Ar101.2.1) (g := (mkF m 2 #[vR a1, vI (Int32.ofNat cs.length)] [(.ref a1), (.int (Int32.ofNat cs.length))])) rfl rfl (hb hby d15_2) _ ?_
  rw [len_of S101 Nn101]
  refine XS.isub X0.here hx rfl (hb hby d15_3) rfl ?_
  refine XS.bipush X0.here hx rfl (hb hby d15_4) ?_
  show SS p e below s₁ m 6 #[vR a1, vI (Int32.ofNat cs.length)] [(.int 31), (.int ((Int32.ofNat cs.length) - (Int32.ofNat (2 * cs.length))))] _
  refine XS.iushr X0.here hx rfl (hb hby d15_6) rfl ?_
  refine XS.i2b X0.here hx rfl (hb hby d15_7) rfl ?_
  show SS p e below s₁ m 8 #[vR a1, vI (Int32.ofNat cs.length)] [(.int (((((Int32.ofNat cs.length) - (Int32.ofNat (2 * cs.length))).toUInt32 >>> ((31 : Int32) &&& 31).toUInt32).toInt32).toInt8.toInt32))] _
  exact retN X0 hx (t := .byte) Bd.returns (by simp) (hb hby d15_8) hr
 ·show Q_rmCdrLenU Z a1 cs k1 vs h0 n0 _ s₁.heap _
  rw [e0]
  exact ⟨congrArg (fun z => some (Value.int z)) (own_coder h0n (by omega)), N0, rfl⟩
theorem d4_0 : decode cD8 0 = .ok (.aload_n 0, 1) := by decide +kernel
theorem d4_1 : decode cD8 1 = .ok (.invokespecial 1, 3) := by decide +kernel
theorem d4_4 : decode cD8 4 = .ok (.iload_n 3, 1) := by decide +kernel
theorem d4_5 : decode cD8 5 = .ok (.ifCond .ne 22, 3) := by decide +kernel
theorem d4_27 : decode cD8 27 = .ok (.getstatic 38, 3) := by decide +kernel
theorem d4_30 : decode cD8 30 = .ok (.ifCond .eq 28, 3) := by decide +kernel
theorem d4_33 : decode cD8 33 = .ok (.aload_n 1, 1) := by decide +kernel
theorem d4_34 : decode cD8 34 = .ok (.iload_n 2, 1) := by decide +kernel
theorem d4_35 : decode cD8 35 = .ok (.iload_n 3, 1) := by decide +kernel
theorem d4_36 : decode cD8 36 = .ok (.invokestatic 177, 3) := by decide +kernel
theorem d4_39 : decode cD8 39 = .ok (.astore 5, 2) := by decide +kernel
theorem d4_41 : decode cD8 41 = .ok (.aload_n 0, 1) := by decide +kernel
theorem d4_42 : decode cD8 42 = .ok (.aload 5, 2) := by decide +kernel
theorem d4_44 : decode cD8 44 = .ok (.iload_n 3, 1) := by decide +kernel
theorem d4_45 : decode cD8 45 = .ok (.invokestatic 47, 3) := by decide +kernel
theorem d4_48 : decode cD8 48 = .ok (.putfield 15, 3) := by decide +kernel
theorem d4_51 : decode cD8 51 = .ok (.aload_n 0, 1) := by decide +kernel
theorem d4_52 : decode cD8 52 = .ok (.aload 5, 2) := by decide +kernel
theorem d4_54 : decode cD8 54 = .ok (.putfield 9, 3) := by decide +kernel
theorem d4_57 : decode cD8 57 = .ok (.return_, 1) := by decide +kernel
theorem pn_4 : plainName "java/lang/String" = true := by first | (simp [plainName, overriddenIn]; done) | decide +kernel
theorem pd_13 : parseMethodDescriptor "([BI)B" = some ⟨[(.array .byte), .int], some .byte⟩ := by decide +kernel
theorem ef_rmInit4U (m : MethodId) (y0 : Addr) (y1 : Addr) (y2 : Int32) : entryFrame m #[(.ref y0), (.ref y1), (.int 0), (.int y2), .null] 6 = (mkF m 0 #[vR y0, vR y1, vI 0, vI y2, .val .null, .unset] []) := by first | (simp [entryFrame, mkF, argsToLocals, Value.category]; done) | rfl
def Q_rmInit4U (Z : State) (a1 : Addr) (a2 : Addr) (cs : List Int32) (kC : ClassId) (dC : Value) (m1 : Nat) (cs0 : Int32) (h0 : Heap) (n0 : Nat) (v : Option Value) (h : Heap) (L : List Loc) : Prop := ∃ (t : Addr) (kb : ClassId), v = none ∧ Fr n0 L ∧ Keep h0 h [a1] ∧ Exa Z h a1 "java/lang/String" ∧ Fld Z h a1 "java/lang/String" "value" "[B" (.ref t) ∧ Fld Z h a1 "java/lang/String" "coder" "B" (.int 1) ∧ h0.size ≤ t ∧ @Ne Nat t a1 ∧ Arv Z h t kb .byte (Int32.ofNat (2 * cs.length)) (u16 cs) (.int 0)
set_option maxRecDepth 65536 in
set_option maxHeartbeats 40000000 in
theorem rmInit4U (l : Launch) (Z : State) (a0 : Array Value) (hw : ∀ d ∈ tables_1, d.before a0 Z = true) (ws : List Jvm.Cond) (a1 : Addr) (a2 : Addr) (cs : List Int32) (kC : ClassId) (dC : Value) (m1 : Nat) (cs0 : Int32) (h0 : Heap) (n0 : Nat) (O0 : Old Z n0 h0) (S_CS : SCS Z cs0) (c_CS : ¬ (cs0 = (0 : Int32))) (S_AD : SAD Z) (S_HI : SHI Z) (S_LO : SLO Z) (V1 : Arv Z h0 a2 kC .char (Int32.ofNat cs.length) (cs.map Value.int) dC) (hn : cs.length ≤ 257) (hcs : ∀ c ∈ cs, ¬ c < 0 ∧ ¬ (65535 : Int32) < c) (hj : m1 < cs.length) (hpre : ∀ j, j < m1 → ¬ ((255 : Int32) < cs.getD j 0)) (hend : (255 : Int32) < (cs.getD m1 0)) (g1 : n0 ≤ a1) (E1 : Exa Z h0 a1 "java/lang/String") (F1 : Fld Z h0 a1 "java/lang/String" "value" "[B" .null) (F2 : Fld Z h0 a1 "java/lang/String" "coder" "B" (.int 0)) (ne12 : @Ne Nat a2 a1) :
  MetFree l mN8 (head1 (Jvm.Cond.code mN8 jdk_42_method_149_code 6 none :: ws) (Rm 4 2 771 130)) (fun a U => a = #[(.ref a1), (.ref a2), (.int 0), (.int (Int32.ofNat cs.length)), .null] ∧ Z.Warmed39 U.vm ∧ U.heap = h0) (fun _ _ _ _ _ => True) (fun _ U o U' => ∃ v L, o = .returned v ∧ Q_rmInit4U Z a1 a2 cs kC dC m1 cs0 h0 n0 v U'.heap L ∧ FrameEnd U o U' L (Rm 4 2 771 130).cells (Rm 4 2 771 130).slots) := by
 refine MetFree.of_bodySF (plainFor_of_name pn_4) hisR ?_
 intro p e s m args below meth c s₁ Bd hml0 hP hK
 obtain ⟨rfl, hZ, hh⟩ := hP
 have hx := Bd.exec
 have hby := Bd.bytes
 have hml : c.maxLocals = 6 := hml0
 have hown : s.vm.findClass "java/lang/String" = some m.cls := findClass_of_methodNamed Bd.named
 have hnm := (name_of_methodNamed Bd.named Bd.method).1
 have X0 : Stand p l e (Rm 4 2 771 130) s m #[(.ref a1), (.ref a2), (.int 0), (.int (Int32.ofNat cs.length)), .null] below meth c s₁ [] 0 0 := Stand.of_body Bd
 have e0 : s₁.heap = h0 := by rw [← hh, Bd.state]; rfl
 have N0 := Fr.nil n0
 have hn0 : n0 ≤ h0.size := O0.1 ▸ O0.2.1
 have pre0 : ∀ t, SS p e below s₁ m 0 #[vR a1, vR a2, vI 0, vI (Int32.ofNat cs.length), .val .null, .unset] [] t → Steps p.tables e below (s₁.setTop (entryFrame m #[(.ref a1), (.ref a2), (.int 0), (.int (Int32.ofNat cs.length)), .null] 6)) t := fun t k => castTop (ef_rmInit4U m a1 a2 ((Int32.ofNat cs.length))) k
 have hn31 : cs.length < 2 ^ 31 := by omega
 have lt_a1 : @LT.lt Nat _ a1 h0.size := E1.lt
 have lt_a2 : @LT.lt Nat _ a2 h0.size := V1.lt
 obtain ⟨T101, X101, e101, st101⟩ := initO X0 hx hZ hown (tw hw 20 rfl) (tw hw 21 rfl) (tw hw 22 rfl) e0 (g := (mkF m 1 #[vR a1, vR a2, vI 0, vI (Int32.ofNat cs.length), .val .null, .unset] [(.ref a1)])) rfl (by rw [hml]; rfl) rfl (hb hby d4_1) (by decide) (W := 0) (by show 2 * 0 + _ ≤ _; exact Nat.le_of_eq rfl) (by decide)
 obtain ⟨T102, X102, e102, st102⟩ := getS2 X101 hx hZ hown (host := "") (Or.inl (tw hw 40 rfl)) Via.refl e101 (Sta.ext O0.2 S_CS) (g := (mkF m 27 #[vR a1, vR a2, vI 0, vI (Int32.ofNat cs.length), .val .null, .unset] [])) rfl (hb hby d4_27)
 obtain ⟨_, _, ⟨T103, L103, k103, n103⟩, -, X103, ⟨Lc103, hQ103, l103, y103, z103⟩, st103⟩ := Jvm.LawKit.callS X102 hx (y := mN6) hown (mvT hZ (tw hw 41 rfl)) (mvT hZ (tw hw 42 rfl)) (mvT hZ (tw hw 43 rfl)) (mvT hZ (tw hw 44 rfl)) (by decide) (backOf (W := 0) (rmCmp3 l Z a0 hw [] a2 cs kC dC m1 h0 n0 O0 S_AD S_HI S_LO V1 hn hcs hj hpre hend) hZ (tw hw 44 rfl) (tw hw 43 rfl) (by decide) (by decide)) (g := (mkF m 36 #[vR a1, vR a2, vI 0, vI (Int32.ofNat cs.length), .val .null, .unset] [(.int (Int32.ofNat cs.length)), (.int 0), (.ref a2)])) rfl (by rw [hml]; rfl) (argsL := [(.ref a2), (.int 0), (.int (Int32.ofNat cs.length))]) (rest := []) (lenOf pd_7 rfl) rfl (by show 2 * 0 + _ ≤ _; exact Nat.le_of_eq rfl) (hb hby d4_36) (fun _ _ => ⟨rfl, e102, (by decide : 0 + 2 ≤ _), (by decide : 0 + 771 ≤ _)⟩)
 dsimp only [Pt.U, Pt.locs, Pt.cells, Pt.slots] at X103 l103 y103 z103 st103 hQ103
 subst l103 y103 z103
 obtain ⟨t103, kb103, rfl, N103q, K103, gt103, V103⟩ := hQ103
 have lt103 : @LT.lt Nat _ t103 T103.heap.size := V103.lt
 have sz1_K103 := K103.1
 have N103 := Fr.app N0 N103q
 have O105 : Old Z n0 T103.heap := O0.keep K103 all0
 obtain ⟨_, _, ⟨T104, L104, k104, n104⟩, -, X104, ⟨Lc104, hQ104, l104, y104, z104⟩, st104⟩ := Jvm.LawKit.callS X103 hx (y := mN7) hown (mvT hZ (tw hw 67 rfl)) (mvT hZ (tw hw 68 rfl)) (mvT hZ (tw hw 43 rfl)) (mvT hZ (tw hw 69 rfl)) (by decide) (backOf (W := 1) (rmCdrLenU l Z a0 hw [] t103 cs kb103 (u16 cs) T103.heap n0 O105 V103 (by omega) hn) hZ (tw hw 69 rfl) (tw hw 43 rfl) (by decide) (by decide)) (g := (mkF m 45 #[vR a1, vR a2, vI 0, vI (Int32.ofNat cs.length), .val .null, vR t103] [(.int (Int32.ofNat cs.length)), (.ref t103), (.ref a1)])) rfl (by rw [hml]; rfl) (argsL := [(.ref t103), (.int (Int32.ofNat cs.length))]) (rest := [(.ref a1)]) (lenOf pd_13 rfl) rfl (by show 2 * 0 + _ ≤ _; exact Nat.le_of_eq rfl) (hb hby d4_45) (fun _ _ => ⟨rfl, rfl, (by decide : 2 + 0 ≤ _), (by decide : 771 + 0 ≤ _)⟩)
 dsimp only [Pt.U, Pt.locs, Pt.cells, Pt.slots] at X104 l104 y104 z104 st104 hQ104
 subst l104 y104 z104
 obtain ⟨rfl, N104q, H104⟩ := hQ104
 have N104 := Fr.app N103 N104q
 have C106 := E1.keep K103
 have C107 := F2.keep K103 nin0
 obtain ⟨T108, h108, X108, e108, W108, st108⟩ := putFN X104 hx hZ hown (tw hw 30 rfl) Via.refl H104 C107 C106 (Or.inr ⟨(tw hw 26 rfl), rfl, hnm⟩) (tw hw 10 rfl) (ty := .byte) (v' := (.int 1)) (by decide) rfl rfl (g := (mkF m 48 #[vR a1, vR a2, vI 0, vI (Int32.ofNat cs.length), .val .null, vR t103] [(.int 1), (.ref a1)])) rfl rfl (hb hby d4_48)
 have K108 := Keep.of_wr W108
 have Fw108 := Fld.same W108 C107
 have N108 := Fr.snoc X108 N104 (by omega : @LE.le Nat _ n0 a1)
 have sz2_K108 := K108.1
 have C109 := C106.keep K108
 have C110 := F1.keep K103 nin0
 have C111 := Fld.other W108 C110 (Or.inr (slot_ne (Or.inr (tw hw 25 rfl)) (Or.inr (tw hw 26 rfl)) (by decide) (t := (.array .byte)) (t' := .byte) (by decide) (by decide)))
 obtain ⟨T112, h112, X112, e112, W112, st112⟩ := putF X108 hx hZ hown (host := "") (Or.inl (tw hw 29 rfl)) Via.refl e108 C111 C109 (Or.inr ⟨(tw hw 25 rfl), rfl, hnm⟩) (tw hw 10 rfl) (ty := (.array .byte)) (by decide) rfl rfl (g := (mkF m 54 #[vR a1, vR a2, vI 0, vI (Int32.ofNat cs.length), .val .null, vR t103] [(.ref t103), (.ref a1)])) rfl rfl (hb hby d4_54)
 have K112 := Keep.of_wr W112
 have Fw112 := Fld.same W112 C111
 have N112 := Fr.snoc X112 N108 (by omega : @LE.le Nat _ n0 a1)
 have sz3_K112 := K112.1
 have KC113 : Keep h0 T103.heap [a1] := (Keep.refl h0 [a1]).trans K103 (all0)
 have KC114 : Keep h0 h108 [a1] := KC113.trans K108 (allS (Or.inl (List.mem_of_getElem? (i := 0) rfl)) (all0))
 have KC115 : Keep h0 h112 [a1] := KC114.trans K112 (allS (Or.inl (List.mem_of_getElem? (i := 0) rfl)) (all0))
 have C116 := C109.keep K112
 have C117 := Fld.other W112 Fw108 (Or.inr (slot_ne (Or.inr (tw hw 26 rfl)) (Or.inr (tw hw 25 rfl)) (by decide) (t := .byte) (t' := (.array .byte)) (by decide) (by decide)))
 have C118 := V103.keep K108 (ninS (by omega : @Ne Nat t103 a1) (nin0))
 have C119 := C118.keep K112 (ninS (by omega : @Ne Nat t103 a1) (nin0))
 obtain ⟨fs, hr, hrun, hended, hW, hsame⟩ := X112.leave (v := none) (fun _ => rfl)
 refine ⟨_, _, pre0 _ ?_, hrun, hended, _, _, rfl, ?_, ⟨_, rfl⟩, hW, hsame.mono (by decide) (by decide)⟩
 ·skip
  show SS p e below s₁ m 0 #[vR a1, vR a2, vI 0, vI (Int32.ofNat cs.length), .val .null, .unset] [] _
  refine XS.aloadN X0.here hx rfl (hb hby d4_0) rfl rfl ?_
  show SS p e below s₁ m 1 #[vR a1, vR a2, vI 0, vI (Int32.ofNat cs.length), .val .null, .unset] [(.ref a1)] _
  refine st101 _ ?_
  refine XS.iloadN X101.here hx rfl (hb hby d4_4) rfl ?_
  refine XS.ifYes X101.here hx rfl (pc0 := 5) (pc' := 27) rfl (hb hby d4_5) rfl ((if0 _ _).trans (feq (fun q => by have := (own_eqn (j := 0) hn31 (by decide)).mp q; omega : ¬ ((Int32.ofNat cs.length) = (0 : Int32)))).2) (by decide) (by decide) ?_
  show SS p e below T101 m 27 #[vR a1, vR a2, vI 0, vI (Int32.ofNat cs.length), .val .null, .unset] [] _
  refine st102 _ ?_
  refine XS.ifNo X102.here hx rfl (hb hby d4_30) rfl ((if0 _ _).trans (feq (c_CS : ¬ (cs0 = (0 : Int32)))).1) ?_
  refine XS.aloadN X102.here hx rfl (hb hby d4_33) rfl rfl ?_
  refine XS.iloadN X102.here hx rfl (hb hby d4_34) rfl ?_
  refine XS.iloadN X102.here hx rfl (hb hby d4_35) rfl ?_
  show SS p e below T102 m 36 #[vR a1, vR a2, vI 0, vI (Int32.ofNat cs.length), .val .null, .unset] [(.int (Int32.ofNat cs.length)), (.int 0), (.ref a2)] _
  refine st103 _ ?_
  refine XS.astore X103.here hx rfl (hb hby d4_39) rfl rfl (l' := #[vR a1, vR a2, vI 0, vI (Int32.ofNat cs.length), .val .null, vR t103]) rfl ?_
  refine XS.aloadN X103.here hx rfl (hb hby d4_41) rfl rfl ?_
  refine XS.aload X103.here hx rfl (hb hby d4_42) rfl rfl ?_
  refine XS.iloadN X103.here hx rfl (hb hby d4_44) rfl ?_
  show SS p e below T103 m 45 #[vR a1, vR a2, vI 0, vI (Int32.ofNat cs.length), .val .null, vR t103] [(.int (Int32.ofNat cs.length)), (.ref t103), (.ref a1)] _
  refine st104 _ ?_
  show SS p e below T104 m 48 #[vR a1, vR a2, vI 0, vI (Int32.ofNat cs.length), .val .null, vR t103] [(.int 1), (.ref a1)] _
  refine st108 _ ?_
  refine XS.aloadN X108.here hx rfl (hb hby d4_51) rfl rfl ?_
  refine XS.aload X108.here hx rfl (hb hby d4_52) rfl rfl ?_
  show SS p e below T108 m 54 #[vR a1, vR a2, vI 0, vI (Int32.ofNat cs.length), .val .null, vR t103] [(.ref t103), (.ref a1)] _
  refine st112 _ ?_
  show SS p e below T112 m 57 #[vR a1, vR a2, vI 0, vI (Int32.ofNat cs.length), .val .null, vR t103] [] _
  exact X112.returnOut hx Bd.returns (hb hby d4_57) hr
 ·show Q_rmInit4U Z a1 a2 cs kC dC m1 cs0 h0 n0 _ T112.heap _
  rw [e112]
  exact ⟨_, _, rfl, N112, KC115, C116, Fw112, C117, (by omega), (by omega), C119⟩
theorem d3_0 : decode cD9 0 = .ok (.aload_n 0, 1) := by decide +kernel
theorem d3_1 : decode cD9 1 = .ok (.aload_n 1, 1) := by decide +kernel
theorem d3_2 : decode cD9 2 = .ok (.iconst 0, 1) := by decide +kernel
theorem d3_3 : decode cD9 3 = .ok (.aload_n 1, 1) := by decide +kernel
theorem d3_4 : decode cD9 4 = .ok (.arraylength, 1) := by decide +kernel
theorem d3_5 : decode cD9 5 = .ok (.aconst_null, 1) := by decide +kernel
theorem d3_6 : decode cD9 6 = .ok (.invokespecial 27, 3) := by decide +kernel
theorem d3_9 : decode cD9 9 = .ok (.return_, 1) := by decide +kernel
theorem pn_3 : plainName "java/lang/String" = true := by first | (simp [plainName, overriddenIn]; done) | decide +kernel
theorem pd_3 : parseMethodDescriptor "([CIILjava/lang/Void;)V" = some ⟨[(.array .char), .int, .int, (.object "java/lang/Void")], none⟩ := by decide +kernel
theorem ef_rmInit1U (m : MethodId) (y0 : Addr) (y1 : Addr) : entryFrame m #[(.ref y0), (.ref y1)] 2 = (mkF m 0 #[vR y0, vR y1] []) := by first | (simp [entryFrame, mkF, argsToLocals, Value.category]; done) | rfl
def Q_rmInit1U (Z : State) (a1 : Addr) (a2 : Addr) (cs : List Int32) (kC : ClassId) (dC : Value) (m1 : Nat) (cs0 : Int32) (h0 : Heap) (n0 : Nat) (v : Option Value) (h : Heap) (L : List Loc) : Prop := ∃ (t : Addr) (kb : ClassId), v = none ∧ Fr n0 L ∧ Keep h0 h [a1] ∧ Exa Z h a1 "java/lang/String" ∧ Fld Z h a1 "java/lang/String" "value" "[B" (.ref t) ∧ Fld Z h a1 "java/lang/String" "coder" "B" (.int 1) ∧ h0.size ≤ t ∧ @Ne Nat t a1 ∧ Arv Z h t kb .byte (Int32.ofNat (2 * cs.length)) (u16 cs) (.int 0)
set_option maxRecDepth 65536 in
set_option maxHeartbeats 40000000 in
theorem rmInit1U (l : Launch) (Z : State) (a0 : Array Value) (hw : ∀ d ∈ tables_1, d.before a0 Z = true) (ws : List Jvm.Cond) (a1 : Addr) (a2 : Addr) (cs : List Int32) (kC : ClassId) (dC : Value) (m1 : Nat) (cs0 : Int32) (h0 : Heap) (n0 : Nat) (O0 : Old Z n0 h0) (S_CS : SCS Z cs0) (c_CS : ¬ (cs0 = (0 : Int32))) (S_AD : SAD Z) (S_HI : SHI Z) (S_LO : SLO Z) (V1 : Arv Z h0 a2 kC .char (Int32.ofNat cs.length) (cs.map Value.int) dC) (hn : cs.length ≤ 257) (hcs : ∀ c ∈ cs, ¬ c < 0 ∧ ¬ (65535 : Int32) < c) (hj : m1 < cs.length) (hpre : ∀ j, j < m1 → ¬ ((255 : Int32) < cs.getD j 0)) (hend : (255 : Int32) < (cs.getD m1 0)) (g1 : n0 ≤ a1) (E1 : Exa Z h0 a1 "java/lang/String") (F1 : Fld Z h0 a1 "java/lang/String" "value" "[B" .null) (F2 : Fld Z h0 a1 "java/lang/String" "coder" "B" (.int 0)) (ne12 : @Ne Nat a2 a1) :
  MetFree l mN9 (head1 (Jvm.Cond.code mN9 jdk_42_method_3_code 2 none :: ws) (Rm 5 2 771 150)) (fun a U => a = #[(.ref a1), (.ref a2)] ∧ Z.Warmed39 U.vm ∧ U.heap = h0) (fun _ _ _ _ _ => True) (fun _ U o U' => ∃ v L, o = .returned v ∧ Q_rmInit1U Z a1 a2 cs kC dC m1 cs0 h0 n0 v U'.heap L ∧ FrameEnd U o U' L (Rm 5 2 771 150).cells (Rm 5 2 771 150).slots) := by
 refine MetFree.of_bodySF (plainFor_of_name pn_3) hisR ?_
 intro p e s m args below meth c s₁ Bd hml0 hP hK
 obtain ⟨rfl, hZ, hh⟩ := hP
 have hx := Bd.exec
 have hby := Bd.bytes
 have hml : c.maxLocals = 2 := hml0
 have hown : s.vm.findClass "java/lang/String" = some m.cls := findClass_of_methodNamed Bd.named
 have hnm := (name_of_methodNamed Bd.named Bd.method).1
 have X0 : Stand p l e (Rm 5 2 771 150) s m #[(.ref a1), (.ref a2)] below meth c s₁ [] 0 0 := Stand.of_body Bd
 have e0 : s₁.heap = h0 := by rw [← hh, Bd.state]; rfl
 have N0 := Fr.nil n0
 have hn0 : n0 ≤ h0.size := O0.1 ▸ O0.2.1
 have pre0 : ∀ t, SS p e below s₁ m 0 #[vR a1, vR a2] [] t → Steps p.tables e below (s₁.setTop (entryFrame m #[(.ref a1), (.ref a2)] 2)) t := fun t k => castTop (ef_rmInit1U m a1 a2) k
 have hn31 : cs.length < 2 ^ 31 := by omega
 have lt_a1 : @LT.lt Nat _ a1 h0.size := E1.lt
 have lt_a2 : @LT.lt Nat _ a2 h0.size := V1.lt
 obtain ⟨cl101, Ar101, q101, S101, Nn101, H101, G101⟩ := id V1
 obtain ⟨_, _, ⟨T102, L102, k102, n102⟩, -, X102, ⟨Lc102, hQ102, l102, y102, z102⟩, st102⟩ := X0.specialBack hx (y := mN8) rfl hown (mvT hZ (tw hw 16 rfl)) (mvT hZ (tw hw 17 rfl)) (mvT hZ (tw hw 19 rfl)) (by decide) (backOf (W := 0) (rmInit4U l Z a0 hw [] a1 a2 cs kC dC m1 cs0 h0 n0 O0 S_CS c_CS S_AD S_HI S_LO V1 hn hcs hj hpre hend (by omega : @LE.le Nat _ n0 a1) E1 F1 F2 (by omega)) hZ (tw hw 19 rfl) (tw hw 11 rfl) (by decide) (by decide)) (g := (mkF m 6 #[vR a1, vR a2] [.null, (.int (Int32.ofNat cs.length)), (.int 0), (.ref a2), (.ref a1)])) rfl (by rw [hml]; rfl) (Steps.refl _) (a := a1) (argsL := [(.ref a2), (.int 0), (.int (Int32.ofNat cs.length)), .null]) (rest := []) (lenOf pd_3 rfl) rfl (by show 2 * 0 + _ ≤ _; exact Nat.le_of_eq rfl) (hb hby d3_6) (fun _ _ => ⟨rfl, e0, (by decide : 0 + 2 ≤ _), (by decide : 0 + 771 ≤ _)⟩)
 dsimp only [Pt.U, Pt.locs, Pt.cells, Pt.slots] at X102 l102 y102 z102 st102 hQ102
 subst l102 y102 z102
 obtain ⟨t102, kb102, rfl, N102q, K102, E102, Fv102, Fc102, gt102, tx102, V102⟩ := hQ102
 have lt102 : @LT.lt Nat _ t102 T102.heap.size := V102.lt
 have sz1_K102 := K102.1
 have N102 := Fr.app N0 N102q
 have KC103 : Keep h0 T102.heap [a1] := (Keep.refl h0 [a1]).trans K102 (allS (Or.inl (List.mem_of_getElem? (i := 0) rfl)) (all0))
 obtain ⟨fs, hr, hrun, hended, hW, hsame⟩ := X102.leave (v := none) (fun _ => rfl)
 refine ⟨_, _, pre0 _ ?_, hrun, hended, _, _, rfl, ?_, ⟨_, rfl⟩, hW, hsame.mono (by decide) (by decide)⟩
 ·skip
  show SS p e below s₁ m 0 #[vR a1, vR a2] [] _
  refine XS.aloadN X0.here hx rfl (hb hby d3_0) rfl rfl ?_
  refine XS.aloadN X0.here hx rfl (hb hby d3_1) rfl rfl ?_
  refine XS.iconst X0.here hx rfl (hb hby d3_2) ?_
  refine XS.aloadN X0.here hx rfl (hb hby d3_3) rfl rfl ?_
  show SS p e below s₁ m 4 #[vR a1, vR a2] [(.ref a2), (.int 0), (.ref a2), (.ref a1)] _
  refine X0.arraylength hx (by rw [e0]; exact Ar101.1) (State.isArrayOf_alike hZ.alike Ar101.2.1) (g := (mkF m 4 #[vR a1, vR a2] [(.ref a2), (.int 0), (.ref a2), (.ref a1)])) rfl rfl (hb hby d3_4) _ ?_
  rw [len_of S101 Nn101]
  refine XS.aconstNull X0.here hx rfl (hb hby d3_5) ?_
  show SS p e below s₁ m 6 #[vR a1, vR a2] [.null, (.int (Int32.ofNat cs.length)), (.int 0), (.ref a2), (.ref a1)] _
  refine st102.trans ?_
  show SS p e below T102 m 9 #[vR a1, vR a2] [] _
  exact X102.returnOut hx Bd.returns (hb hby d3_9) hr
 ·show Q_rmInit1U Z a1 a2 cs kC dC m1 cs0 h0 n0 _ T102.heap _
  exact ⟨_, _, rfl, N102, KC103, E102, Fv102, Fc102, (by omega), (by omega), V102⟩
theorem d4_8 : decode cD8 8 = .ok (.aload_n 0, 1) := by decide +kernel
theorem d4_9 : decode cD8 9 = .ok (.ldc 7, 2) := by decide +kernel
theorem d4_11 : decode cD8 11 = .ok (.getfield 9, 3) := by decide +kernel
theorem d4_14 : decode cD8 14 = .ok (.putfield 9, 3) := by decide +kernel
theorem d4_17 : decode cD8 17 = .ok (.aload_n 0, 1) := by decide +kernel
theorem d4_18 : decode cD8 18 = .ok (.ldc 7, 2) := by decide +kernel
theorem d4_20 : decode cD8 20 = .ok (.getfield 15, 3) := by decide +kernel
theorem d4_23 : decode cD8 23 = .ok (.putfield 15, 3) := by decide +kernel
theorem d4_26 : decode cD8 26 = .ok (.return_, 1) := by decide +kernel
theorem ef_rmInit4Z (m : MethodId) (y0 : Addr) (y1 : Addr) : entryFrame m #[(.ref y0), (.ref y1), (.int 0), (.int 0), .null] 6 = (mkF m 0 #[vR y0, vR y1, vI 0, vI 0, .val .null, .unset] []) := by first | (simp [entryFrame, mkF, argsToLocals, Value.category]; done) | rfl
def Q_rmInit4Z (Z : State) (a1 : Addr) (a2 : Addr) (h0 : Heap) (n0 : Nat) (v : Option Value) (h : Heap) (L : List Loc) : Prop := ∃ (t : Addr) (kb : ClassId), v = none ∧ Fr n0 L ∧ Keep h0 h [a1] ∧ Exa Z h a1 "java/lang/String" ∧ Fld Z h a1 "java/lang/String" "value" "[B" (.ref t) ∧ Fld Z h a1 "java/lang/String" "coder" "B" (.int 0) ∧ @Ne Nat t a1 ∧ Arv Z h t kb .byte (Int32.ofNat ([] : List Int32).length) (([] : List Int32).map Value.int) (.int 0)
set_option maxRecDepth 65536 in
set_option maxHeartbeats 40000000 in
theorem rmInit4Z (l : Launch) (Z : State) (a0 : Array Value) (hw : ∀ d ∈ tables_1, d.before a0 Z = true) (ws : List Jvm.Cond) (a1 : Addr) (a2 : Addr) (h0 : Heap) (n0 : Nat) (O0 : Old Z n0 h0) (g1 : n0 ≤ a1) (E1 : Exa Z h0 a1 "java/lang/String") (F1 : Fld Z h0 a1 "java/lang/String" "value" "[B" .null) (F2 : Fld Z h0 a1 "java/lang/String" "coder" "B" (.int 0)) :
  MetFree l mN8 (head1 (Jvm.Cond.code mN8 jdk_42_method_149_code 6 none :: ws) (Rm 1 2 4 20)) (fun a U => a = #[(.ref a1), (.ref a2), (.int 0), (.int 0), .null] ∧ Z.Warmed39 U.vm ∧ U.heap = h0 ∧ CHv Z EL1 U.vm h0) (fun _ _ _ _ _ => True) (fun _ U o U' => ∃ v L, o = .returned v ∧ Q_rmInit4Z Z a1 a2 h0 n0 v U'.heap L ∧ ReturnedEndW U o U' L (Rm 1 2 4 20).cells (Rm 1 2 4 20).slots) := by
 refine MetFree.of_bodySF (plainFor_of_name pn_4) hisR ?_
 intro p e s m args below meth c s₁ Bd hml0 hP hK
 obtain ⟨rfl, hZ, hh, hCH⟩ := hP
 have hx := Bd.exec
 have hby := Bd.bytes
 have hml : c.maxLocals = 6 := hml0
 have hown : s.vm.findClass "java/lang/String" = some m.cls := findClass_of_methodNamed Bd.named
 have hnm := (name_of_methodNamed Bd.named Bd.method).1
 have X0 : Stand p l e (Rm 1 2 4 20) s m #[(.ref a1), (.ref a2), (.int 0), (.int 0), .null] below meth c s₁ [] 0 0 := Stand.of_body Bd
 have e0 : s₁.heap = h0 := by rw [← hh, Bd.state]; rfl
 have N0 := Fr.nil n0
 have hn0 : n0 ≤ h0.size := O0.1 ▸ O0.2.1
 have hS0 : s.Since s.vm h0.size := (State.WarmedH.refl s).since _
 have pre0 : ∀ t, SS p e below s₁ m 0 #[vR a1, vR a2, vI 0, vI 0, .val .null, .unset] [] t → Steps p.tables e below (s₁.setTop (entryFrame m #[(.ref a1), (.ref a2), (.int 0), (.int 0), .null] 6)) t := fun t k => castTop (ef_rmInit4Z m a1 a2) k
 have wStr : ∀ d ∈ Bundle.stringAtoms, d.before a0 Z = true := fun d hd => hw d ((by decide +kernel : ∀ d ∈ Bundle.stringAtoms, d ∈ tables_1) d hd)
 have hEW : EW Z a0 EL1 := EW.cons (tw hw 23 rfl) (by decide) EW.nil
 have lt_a1 : @LT.lt Nat _ a1 h0.size := E1.lt
 obtain ⟨T101, X101, e101, st101⟩ := initO X0 hx hZ hown (tw hw 20 rfl) (tw hw 21 rfl) (tw hw 22 rfl) e0 (g := (mkF m 1 #[vR a1, vR a2, vI 0, vI 0, .val .null, .unset] [(.ref a1)])) rfl (by rw [hml]; rfl) rfl (hb hby d4_1) (by decide) (W := 0) (by show 2 * 0 + _ ≤ _; exact Nat.le_of_eq rfl) (by decide)
 obtain ⟨b102, T102, h102, k102, t102, kb102, X102, e102, E102, hS102, hk102, hZ102, hown102, Ea102, Fc102, Fv102, Av102, la102, lb102, CR102, Li102, -, st102⟩ := ldcCH (s := s) (vm0 := s.vm) X101 hx hZ hown (tw hw 23 rfl) wStr e101 hS0 (by omega) hEW (by simp [EL1]) hCH (vs := (([] : List Int32).map Value.int)) (z := (Int32.ofNat ([] : List Int32).length)) ⟨by decide, by decide⟩ (by decide) (by decide) (g := (mkF m 9 #[vR a1, vR a2, vI 0, vI 0, .val .null, .unset] [(.ref a1)])) rfl (hb hby d4_9) (n := 0) (by decide) (by decide) (by decide) (by decide)
 have lta102 : @LT.lt Nat _ b102 h102.size := la102
 have ltb102 : @LT.lt Nat _ t102 h102.size := lb102
 have K102 : Keep h0 h102 [] := (Keep.refl _ _).ext E102
 have sz1_K102 := K102.1
 have C103 := F1.keep K102 nin0
 have nea102 : @Ne Nat b102 a1 := Fld.ne Fv102 C103 (by simp)
 have C104 := E1.keep K102
 have net102 : @Ne Nat t102 a1 := Ne.symm (Exa.neArv C104 Av102 (tw hw 10 rfl))
 obtain ⟨T105, X105, e105, st105⟩ := getF X102 hx hZ102 hown102 (host := "") (Or.inl (tw hw 29 rfl)) Via.refl e102 Fv102 (g := (mkF m 11 #[vR a1, vR a2, vI 0, vI 0, .val .null, .unset] [(.ref b102), (.ref a1)])) rfl rfl (hb hby d4_11)
 obtain ⟨T106, h106, X106, e106, W106, st106⟩ := putF X105 hx hZ102 hown102 (host := "") (Or.inl (tw hw 29 rfl)) Via.refl e105 C103 C104 (Or.inr ⟨(tw hw 25 rfl), rfl, hnm⟩) (tw hw 10 rfl) (ty := (.array .byte)) (by decide) rfl rfl (g := (mkF m 14 #[vR a1, vR a2, vI 0, vI 0, .val .null, .unset] [(.ref t102), (.ref a1)])) rfl rfl (hb hby d4_14)
 have K106 := Keep.of_wr W106
 have Fw106 := Fld.same W106 C103
 have N106 := Fr.snoc X106 N0 (by omega : @LE.le Nat _ n0 a1)
 have sz2_K106 := K106.1
 have C108 := Fc102.keep K106 (ninS (by omega : @Ne Nat b102 a1) (nin0))
 obtain ⟨T109, X109, e109, st109⟩ := getF X106 hx hZ102 hown102 (host := "") (Or.inl (tw hw 30 rfl)) Via.refl e106 C108 (g := (mkF m 20 #[vR a1, vR a2, vI 0, vI 0, .val .null, .unset] [(.ref b102), (.ref a1)])) rfl rfl (hb hby d4_20)
 have C110 := C104.keep K106
 have C111 := F2.keep K102 nin0
 have C112 := Fld.other W106 C111 (Or.inr (slot_ne (Or.inr (tw hw 26 rfl)) (Or.inr (tw hw 25 rfl)) (by decide) (t := .byte) (t' := (.array .byte)) (by decide) (by decide)))
 obtain ⟨T113, h113, X113, e113, W113, st113⟩ := putFN X109 hx hZ102 hown102 (tw hw 30 rfl) Via.refl e109 C112 C110 (Or.inr ⟨(tw hw 26 rfl), rfl, hnm⟩) (tw hw 10 rfl) (ty := .byte) (v' := (.int 0)) (by decide) rfl rfl (g := (mkF m 23 #[vR a1, vR a2, vI 0, vI 0, .val .null, .unset] [(.int 0), (.ref a1)])) rfl rfl (hb hby d4_23)
 have K113 := Keep.of_wr W113
 have Fw113 := Fld.same W113 C112
 have N113 := Fr.snoc X113 N106 (by omega : @LE.le Nat _ n0 a1)
 have sz3_K113 := K113.1
 have KC114 : Keep h0 h102 [a1] := (Keep.refl h0 [a1]).trans K102 (all0)
 have KC115 : Keep h0 h106 [a1] := KC114.trans K106 (allS (Or.inl (List.mem_of_getElem? (i := 0) rfl)) (all0))
 have KC116 : Keep h0 h113 [a1] := KC115.trans K113 (allS (Or.inl (List.mem_of_getElem? (i := 0) rfl)) (all0))
 have C117 := C110.keep K113
 have C118 := Fld.other W113 Fw106 (Or.inr (slot_ne (Or.inr (tw hw 25 rfl)) (Or.inr (tw hw 26 rfl)) (by decide) (t := (.array .byte)) (t' := .byte) (by decide) (by decide)))
 have C119 := Av102.keep K106 (ninS (by omega : @Ne Nat t102 a1) (nin0))
 have C120 := C119.keep K113 (ninS (by omega : @Ne Nat t102 a1) (nin0))
 obtain ⟨fs, hr, hrun, hended, eR, eW, eI, eS⟩ := Stand.leaveW (s := s) (vm₁ := T102.vm) X113 hS102 (by rw [e113]; omega) (v := none) (fun _ => rfl)
 refine ⟨_, _, pre0 _ ?_, hrun, hended, _, _, rfl, ?_, eR, eW, eI, eS.mono (by decide) (by decide)⟩
 ·skip
  show SS p e below s₁ m 0 #[vR a1, vR a2, vI 0, vI 0, .val .null, .unset] [] _
  refine XS.aloadN X0.here hx rfl (hb hby d4_0) rfl rfl ?_
  show SS p e below s₁ m 1 #[vR a1, vR a2, vI 0, vI 0, .val .null, .unset] [(.ref a1)] _
  refine st101 _ ?_
  refine XS.iloadN X101.here hx rfl (hb hby d4_4) rfl ?_
  refine XS.ifNo X101.here hx rfl (hb hby d4_5) rfl ((if0 _ _).trans (teq (by decide : (0 : Int32) = (0 : Int32))).2) ?_
  refine XS.aloadN X101.here hx rfl (hb hby d4_8) rfl rfl ?_
  show SS p e below T101 m 9 #[vR a1, vR a2, vI 0, vI 0, .val .null, .unset] [(.ref a1)] _
  refine st102 _ ?_
  show SS p e below T102 m 11 #[vR a1, vR a2, vI 0, vI 0, .val .null, .unset] [(.ref b102), (.ref a1)] _
  refine st105 _ ?_
  show SS p e below T105 m 14 #[vR a1, vR a2, vI 0, vI 0, .val .null, .unset] [(.ref t102), (.ref a1)] _
  refine st106 _ ?_
  refine XS.aloadN X106.here hx rfl (hb hby d4_17) rfl rfl ?_
  show SS p e below T106 m 18 #[vR a1, vR a2, vI 0, vI 0, .val .null, .unset] [(.ref a1)] _
  refine ldcAgain (s := s) (vm0 := T102.vm) X106 hx hZ102 hown102 (tw hw 23 rfl) Li102 (g := (mkF m 18 #[vR a1, vR a2, vI 0, vI 0, .val .null, .unset] [(.ref a1)])) rfl (hb hby d4_18) _ ?_
  show SS p e below T106 m 20 #[vR a1, vR a2, vI 0, vI 0, .val .null, .unset] [(.ref b102), (.ref a1)] _
  refine st109 _ ?_
  show SS p e below T109 m 23 #[vR a1, vR a2, vI 0, vI 0, .val .null, .unset] [(.int 0), (.ref a1)] _
  refine st113 _ ?_
  show SS p e below T113 m 26 #[vR a1, vR a2, vI 0, vI 0, .val .null, .unset] [] _
  exact X113.returnOut hx Bd.returns (hb hby d4_26) hr
 ·show Q_rmInit4Z Z a1 a2 h0 n0 _ T113.heap _
  rw [e113]
  exact ⟨_, _, rfl, N113, KC116, C117, C118, Fw113, (by omega), C120⟩
theorem ef_rmInit1Z (m : MethodId) (y0 : Addr) (y1 : Addr) : entryFrame m #[(.ref y0), (.ref y1)] 2 = (mkF m 0 #[vR y0, vR y1] []) := by first | (simp [entryFrame, mkF, argsToLocals, Value.category]; done) | rfl
def Q_rmInit1Z (Z : State) (a1 : Addr) (a2 : Addr) (kC : ClassId) (vC : List Value) (dC : Value) (h0 : Heap) (n0 : Nat) (v : Option Value) (h : Heap) (L : List Loc) : Prop := ∃ (t : Addr) (kb : ClassId), v = none ∧ Fr n0 L ∧ Keep h0 h [a1] ∧ Exa Z h a1 "java/lang/String" ∧ Fld Z h a1 "java/lang/String" "value" "[B" (.ref t) ∧ Fld Z h a1 "java/lang/String" "coder" "B" (.int 0) ∧ @Ne Nat t a1 ∧ Arv Z h t kb .byte (Int32.ofNat ([] : List Int32).length) (([] : List Int32).map Value.int) (.int 0)
set_option maxRecDepth 65536 in
set_option maxHeartbeats 40000000 in
theorem rmInit1Z (l : Launch) (Z : State) (a0 : Array Value) (hw : ∀ d ∈ tables_1, d.before a0 Z = true) (ws : List Jvm.Cond) (a1 : Addr) (a2 : Addr) (kC : ClassId) (vC : List Value) (dC : Value) (h0 : Heap) (n0 : Nat) (O0 : Old Z n0 h0) (g1 : n0 ≤ a1) (E1 : Exa Z h0 a1 "java/lang/String") (F1 : Fld Z h0 a1 "java/lang/String" "value" "[B" .null) (F2 : Fld Z h0 a1 "java/lang/String" "coder" "B" (.int 0)) (V2 : Arv Z h0 a2 kC .char (0 : Int32) vC dC) :
  MetFree l mN9 (head1 (Jvm.Cond.code mN9 jdk_42_method_3_code 2 none :: ws) (Rm 2 2 4 50)) (fun a U => a = #[(.ref a1), (.ref a2)] ∧ Z.Warmed39 U.vm ∧ U.heap = h0 ∧ CHv Z EL1 U.vm h0) (fun _ _ _ _ _ => True) (fun _ U o U' => ∃ v L, o = .returned v ∧ Q_rmInit1Z Z a1 a2 kC vC dC h0 n0 v U'.heap L ∧ ReturnedEndW U o U' L (Rm 2 2 4 50).cells (Rm 2 2 4 50).slots) := by
 refine MetFree.of_bodySF (plainFor_of_name pn_3) hisR ?_
 intro p e s m args below meth c s₁ Bd hml0 hP hK
 obtain ⟨rfl, hZ, hh, hCH⟩ := hP
 have hx := Bd.exec
 have hby := Bd.bytes
 have hml : c.maxLocals = 2 := hml0
 have hown : s.vm.findClass "java/lang/String" = some m.cls := findClass_of_methodNamed Bd.named
 have hnm := (name_of_methodNamed Bd.named Bd.method).1
 have X0 : Stand p l e (Rm 2 2 4 50) s m #[(.ref a1), (.ref a2)] below meth c s₁ [] 0 0 := Stand.of_body Bd
 have e0 : s₁.heap = h0 := by rw [← hh, Bd.state]; rfl
 have N0 := Fr.nil n0
 have hn0 : n0 ≤ h0.size := O0.1 ▸ O0.2.1
 have hS0 : s.Since s.vm h0.size := (State.WarmedH.refl s).since _
 have pre0 : ∀ t, SS p e below s₁ m 0 #[vR a1, vR a2] [] t → Steps p.tables e below (s₁.setTop (entryFrame m #[(.ref a1), (.ref a2)] 2)) t := fun t k => castTop (ef_rmInit1Z m a1 a2) k
 have wStr : ∀ d ∈ Bundle.stringAtoms, d.before a0 Z = true := fun d hd => hw d ((by decide +kernel : ∀ d ∈ Bundle.stringAtoms, d ∈ tables_1) d hd)
 have hEW : EW Z a0 EL1 := EW.cons (tw hw 23 rfl) (by decide) EW.nil
 have lt_a1 : @LT.lt Nat _ a1 h0.size := E1.lt
 obtain ⟨cl101, Ar101, q101, S101, Nn101, H101, G101⟩ := id V2
 obtain ⟨_, _, ⟨T102, L102, k102, n102⟩, -, X102q, hSq102, hgr102, ⟨Lc102, hQ102, l102, y102, z102⟩, st102⟩ := X0.specialBackS hx (y := mN8) rfl hown (mvT hZ (tw hw 16 rfl)) (mvT hZ (tw hw 17 rfl)) (mvT hZ (tw hw 19 rfl)) (by decide) (own_backH (s := s) (vm0 := s.vm) (EL := EL1) (W := 0) (rmInit4Z l Z a0 hw [] a1 a2  h0 n0 O0 (by omega : @LE.le Nat _ n0 a1) E1 F1 F2) hZ (tw hw 19 rfl) (tw hw 11 rfl) (by decide) (by decide) hEW hCH) (g := (mkF m 6 #[vR a1, vR a2] [.null, (.int 0), (.int 0), (.ref a2), (.ref a1)])) rfl (by rw [hml]; rfl) (Steps.refl _) (a := a1) (argsL := [(.ref a2), (.int 0), (.int 0), .null]) (rest := []) (lenOf pd_3 rfl) rfl (by show 2 * 0 + _ ≤ _; exact Nat.le_of_eq rfl) (hb hby d3_6) (fun _ _ => ⟨rfl, e0, (by decide : 0 + 2 ≤ _), (by decide : 0 + 4 ≤ _)⟩)
 dsimp only [Pt.U, Pt.locs, Pt.cells, Pt.slots] at X102q l102 y102 z102 st102 hQ102 hSq102 hgr102
 subst l102 y102 z102
 obtain ⟨X102, hS102, hZ102, hown102⟩ := rebS (s := s) (vm0 := s.vm) hS0 (by rw [e0]; omega) X102q hSq102 hgr102 hZ hown
 obtain ⟨t102, kb102, rfl, N102q, K102, E102, Fv102, Fc102, tx102, V102⟩ := hQ102
 have lt102 : @LT.lt Nat _ t102 T102.heap.size := V102.lt
 have sz1_K102 := K102.1
 have N102 := Fr.app N0 N102q
 have KC103 : Keep h0 T102.heap [a1] := (Keep.refl h0 [a1]).trans K102 (allS (Or.inl (List.mem_of_getElem? (i := 0) rfl)) (all0))
 obtain ⟨fs, hr, hrun, hended, eR, eW, eI, eS⟩ := Stand.leaveW (s := s) (vm₁ := T102.vm) X102 hS102 (by omega) (v := none) (fun _ => rfl)
 refine ⟨_, _, pre0 _ ?_, hrun, hended, _, _, rfl, ?_, eR, eW, eI, eS.mono (by decide) (by decide)⟩
 ·skip
  show SS p e below s₁ m 0 #[vR a1, vR a2] [] _
  refine XS.aloadN X0.here hx rfl (hb hby d3_0) rfl rfl ?_
  refine XS.aloadN X0.here hx rfl (hb hby d3_1) rfl rfl ?_
  refine XS.iconst X0.here hx rfl (hb hby d3_2) ?_
  refine XS.aloadN X0.here hx rfl (hb hby d3_3) rfl rfl ?_
  show SS p e below s₁ m 4 #[vR a1, vR a2] [(.ref a2), (.int 0), (.ref a2), (.ref a1)] _
  refine X0.arraylength hx (by rw [e0]; exact Ar101.1) (State.isArrayOf_alike hZ.alike Ar101.2.1) (g := (mkF m 4 #[vR a1, vR a2] [(.ref a2), (.int 0), (.ref a2), (.ref a1)])) rfl rfl (hb hby d3_4) _ ?_
  rw [len_of S101 Nn101]
  refine XS.aconstNull X0.here hx rfl (hb hby d3_5) ?_
  show SS p e below s₁ m 6 #[vR a1, vR a2] [.null, (.int 0), (.int 0), (.ref a2), (.ref a1)] _
  refine st102.trans ?_
  show SS p e below T102 m 9 #[vR a1, vR a2] [] _
  exact X102.returnOut hx Bd.returns (hb hby d3_9) hr
 ·show Q_rmInit1Z Z a1 a2 kC vC dC h0 n0 _ T102.heap _
  exact ⟨_, _, rfl, N102, KC103, E102, Fv102, Fc102, (by omega), V102⟩
theorem d17_0 : decode cD10 0 = .ok (.getstatic 38, 3) := by decide +kernel
theorem d17_3 : decode cD10 3 = .ok (.ifCond .eq 10, 3) := by decide +kernel
theorem d17_6 : decode cD10 6 = .ok (.aload_n 0, 1) := by decide +kernel
theorem d17_7 : decode cD10 7 = .ok (.getfield 15, 3) := by decide +kernel
theorem d17_10 : decode cD10 10 = .ok (.goto 4, 3) := by decide +kernel
theorem d17_14 : decode cD10 14 = .ok (.ireturn, 1) := by decide +kernel
theorem pn_17 : plainName "java/lang/String" = true := by first | (simp [plainName, overriddenIn]; done) | decide +kernel
theorem ef_rmCoderL (m : MethodId) (y0 : Addr) : entryFrame m #[(.ref y0)] 1 = (mkF m 0 #[vR y0] []) := by first | (simp [entryFrame, mkF, argsToLocals, Value.category]; done) | rfl
def Q_rmCoderL (Z : State) (a1 : Addr) (bs : List Int32) (t1 : Addr) (k1 : ClassId) (cs0 : Int32) (h0 : Heap) (n0 : Nat) (v : Option Value) (h : Heap) (L : List Loc) : Prop := v = some (.int 0) ∧ Fr n0 L ∧ h = h0
set_option maxRecDepth 65536 in
set_option maxHeartbeats 40000000 in
theorem rmCoderL (l : Launch) (Z : State) (a0 : Array Value) (hw : ∀ d ∈ tables_1, d.before a0 Z = true) (ws : List Jvm.Cond) (a1 : Addr) (bs : List Int32) (t1 : Addr) (k1 : ClassId) (cs0 : Int32) (h0 : Heap) (n0 : Nat) (O0 : Old Z n0 h0) (S_CS : SCS Z cs0) (c_CS : ¬ (cs0 = (0 : Int32))) (E1 : Exa Z h0 a1 "java/lang/String") (F1 : Fld Z h0 a1 "java/lang/String" "value" "[B" (.ref t1)) (F2 : Fld Z h0 a1 "java/lang/String" "coder" "B" (.int 0)) (V1 : Arv Z h0 t1 k1 .byte (Int32.ofNat bs.length) (bs.map Value.int) (.int 0)) (hn : bs.length ≤ 257) :
  MetFree l mN10 (head1 (Jvm.Cond.code mN10 jdk_42_method_152_code 1 (some .byte) :: ws) (Rm 0 0 0 0)) (fun a U => a = #[(.ref a1)] ∧ Z.Warmed39 U.vm ∧ U.heap = h0) (fun _ _ _ _ _ => True) (fun _ U o U' => ∃ v L, o = .returned v ∧ Q_rmCoderL Z a1 bs t1 k1 cs0 h0 n0 v U'.heap L ∧ FrameEnd U o U' L (Rm 0 0 0 0).cells (Rm 0 0 0 0).slots) := by
 refine MetFree.of_bodySF (plainFor_of_name pn_17) hisR ?_
 intro p e s m args below meth c s₁ Bd hml0 hP hK
 obtain ⟨rfl, hZ, hh⟩ := hP
 have hx := Bd.exec
 have hby := Bd.bytes
 have hml : c.maxLocals = 1 := hml0
 have hown : s.vm.findClass "java/lang/String" = some m.cls := findClass_of_methodNamed Bd.named
 have hnm := (name_of_methodNamed Bd.named Bd.method).1
 have X0 : Stand p l e (Rm 0 0 0 0) s m #[(.ref a1)] below meth c s₁ [] 0 0 := Stand.of_body Bd
 have e0 : s₁.heap = h0 := by rw [← hh, Bd.state]; rfl
 have N0 := Fr.nil n0
 have hn0 : n0 ≤ h0.size := O0.1 ▸ O0.2.1
 have pre0 : ∀ t, SS p e below s₁ m 0 #[vR a1] [] t → Steps p.tables e below (s₁.setTop (entryFrame m #[(.ref a1)] 1)) t := fun t k => castTop (ef_rmCoderL m a1) k
 obtain ⟨T101, X101, e101, st101⟩ := getS2 X0 hx hZ hown (host := "") (Or.inl (tw hw 40 rfl)) Via.refl e0 (Sta.ext O0.2 S_CS) (g := (mkF m 0 #[vR a1] [])) rfl (hb hby d17_0)
 obtain ⟨T102, X102, e102, st102⟩ := getF X101 hx hZ hown (host := "") (Or.inl (tw hw 30 rfl)) Via.refl e101 F2 (g := (mkF m 7 #[vR a1] [(.ref a1)])) rfl rfl (hb hby d17_7)
 obtain ⟨fs, hr, hrun, hended, hW, hsame⟩ := X102.leave (v := some (.int 0)) (fun h => by rw [Bd.returns] at h; cases h)
 refine ⟨_, _, pre0 _ ?_, hrun, hended, _, _, rfl, ?_, ⟨_, rfl⟩, hW, hsame.mono (by decide) (by decide)⟩
 ·skip
  show SS p e below s₁ m 0 #[vR a1] [] _
  refine st101 _ ?_
  refine XS.ifNo X101.here hx rfl (hb hby d17_3) rfl ((if0 _ _).trans (feq (c_CS : ¬ (cs0 = (0 : Int32)))).1) ?_
  refine XS.aloadN X101.here hx rfl (hb hby d17_6) rfl rfl ?_
  show SS p e below T101 m 7 #[vR a1] [(.ref a1)] _
  refine st102 _ ?_
  refine XS.goto X102.here hx rfl (pc0 := 10) (pc' := 14) rfl (hb hby d17_10) (by decide) (by decide) ?_
  show SS p e below T102 m 14 #[vR a1] [(.int 0)] _
  exact retN X102 hx (t := .byte) Bd.returns (by simp) (hb hby d17_14) hr
 ·show Q_rmCoderL Z a1 bs t1 k1 cs0 h0 n0 _ T102.heap _
  rw [e102]
  exact ⟨rfl, N0, rfl⟩
theorem d21_0 : decode cD11 0 = .ok (.getstatic 38, 3) := by decide +kernel
theorem d21_3 : decode cD11 3 = .ok (.ifCond .eq 14, 3) := by decide +kernel
theorem d21_6 : decode cD11 6 = .ok (.aload_n 0, 1) := by decide +kernel
theorem d21_7 : decode cD11 7 = .ok (.getfield 15, 3) := by decide +kernel
theorem d21_10 : decode cD11 10 = .ok (.ifCond .ne 7, 3) := by decide +kernel
theorem d21_13 : decode cD11 13 = .ok (.iconst 1, 1) := by decide +kernel
theorem d21_14 : decode cD11 14 = .ok (.goto 4, 3) := by decide +kernel
theorem d21_18 : decode cD11 18 = .ok (.ireturn, 1) := by decide +kernel
theorem pn_21 : plainName "java/lang/String" = true := by first | (simp [plainName, overriddenIn]; done) | decide +kernel
theorem ef_rmIsLatL (m : MethodId) (y0 : Addr) : entryFrame m #[(.ref y0)] 1 = (mkF m 0 #[vR y0] []) := by first | (simp [entryFrame, mkF, argsToLocals, Value.category]; done) | rfl
def Q_rmIsLatL (Z : State) (a1 : Addr) (bs : List Int32) (t1 : Addr) (k1 : ClassId) (cs0 : Int32) (h0 : Heap) (n0 : Nat) (v : Option Value) (h : Heap) (L : List Loc) : Prop := v = some (.int 1) ∧ Fr n0 L ∧ h = h0
set_option maxRecDepth 65536 in
set_option maxHeartbeats 40000000 in
theorem rmIsLatL (l : Launch) (Z : State) (a0 : Array Value) (hw : ∀ d ∈ tables_1, d.before a0 Z = true) (ws : List Jvm.Cond) (a1 : Addr) (bs : List Int32) (t1 : Addr) (k1 : ClassId) (cs0 : Int32) (h0 : Heap) (n0 : Nat) (O0 : Old Z n0 h0) (S_CS : SCS Z cs0) (c_CS : ¬ (cs0 = (0 : Int32))) (E1 : Exa Z h0 a1 "java/lang/String") (F1 : Fld Z h0 a1 "java/lang/String" "value" "[B" (.ref t1)) (F2 : Fld Z h0 a1 "java/lang/String" "coder" "B" (.int 0)) (V1 : Arv Z h0 t1 k1 .byte (Int32.ofNat bs.length) (bs.map Value.int) (.int 0)) (hn : bs.length ≤ 257) :
  MetFree l mN11 (head1 (Jvm.Cond.code mN11 jdk_42_method_154_code 1 (some .boolean) :: ws) (Rm 0 0 0 0)) (fun a U => a = #[(.ref a1)] ∧ Z.Warmed39 U.vm ∧ U.heap = h0) (fun _ _ _ _ _ => True) (fun _ U o U' => ∃ v L, o = .returned v ∧ Q_rmIsLatL Z a1 bs t1 k1 cs0 h0 n0 v U'.heap L ∧ FrameEnd U o U' L (Rm 0 0 0 0).cells (Rm 0 0 0 0).slots) := by
 refine MetFree.of_bodySF (plainFor_of_name pn_21) hisR ?_
 intro p e s m args below meth c s₁ Bd hml0 hP hK
 obtain ⟨rfl, hZ, hh⟩ := hP
 have hx := Bd.exec
 have hby := Bd.bytes
 have hml : c.maxLocals = 1 := hml0
 have hown : s.vm.findClass "java/lang/String" = some m.cls := findClass_of_methodNamed Bd.named
 have hnm := (name_of_methodNamed Bd.named Bd.method).1
 have X0 : Stand p l e (Rm 0 0 0 0) s m #[(.ref a1)] below meth c s₁ [] 0 0 := Stand.of_body Bd
 have e0 : s₁.heap = h0 := by rw [← hh, Bd.state]; rfl
 have N0 := Fr.nil n0
 have hn0 : n0 ≤ h0.size := O0.1 ▸ O0.2.1
 have pre0 : ∀ t, SS p e below s₁ m 0 #[vR a1] [] t → Steps p.tables e below (s₁.setTop (entryFrame m #[(.ref a1)] 1)) t := fun t k => castTop (ef_rmIsLatL m a1) k
 obtain ⟨T101, X101, e101, st101⟩ := getS2 X0 hx hZ hown (host := "") (Or.inl (tw hw 40 rfl)) Via.refl e0 (Sta.ext O0.2 S_CS) (g := (mkF m 0 #[vR a1] [])) rfl (hb hby d21_0)
 obtain ⟨T102, X102, e102, st102⟩ := getF X101 hx hZ hown (host := "") (Or.inl (tw hw 30 rfl)) Via.refl e101 F2 (g := (mkF m 7 #[vR a1] [(.ref a1)])) rfl rfl (hb hby d21_7)
 obtain ⟨fs, hr, hrun, hended, hW, hsame⟩ := X102.leave (v := some (.int 1)) (fun h => by rw [Bd.returns] at h; cases h)
 refine ⟨_, _, pre0 _ ?_, hrun, hended, _, _, rfl, ?_, ⟨_, rfl⟩, hW, hsame.mono (by decide) (by decide)⟩
 ·skip
  show SS p e below s₁ m 0 #[vR a1] [] _
  refine st101 _ ?_
  refine XS.ifNo X101.here hx rfl (hb hby d21_3) rfl ((if0 _ _).trans (feq (c_CS : ¬ (cs0 = (0 : Int32)))).1) ?_
  refine XS.aloadN X101.here hx rfl (hb hby d21_6) rfl rfl ?_
  show SS p e below T101 m 7 #[vR a1] [(.ref a1)] _
  refine st102 _ ?_
  refine XS.ifNo X102.here hx rfl (hb hby d21_10) rfl ((if0 _ _).trans (teq (by decide : (0 : Int32) = (0 : Int32))).2) ?_
  refine XS.iconst X102.here hx rfl (hb hby d21_13) ?_
  refine XS.goto X102.here hx rfl (pc0 := 14) (pc' := 18) rfl (hb hby d21_14) (by decide) (by decide) ?_
  show SS p e below T102 m 18 #[vR a1] [(.int 1)] _
  exact retN X102 hx (t := .boolean) Bd.returns (by simp) (hb hby d21_18) hr
 ·show Q_rmIsLatL Z a1 bs t1 k1 cs0 h0 n0 _ T102.heap _
  rw [e102]
  exact ⟨rfl, N0, rfl⟩
theorem d16_0 : decode cD12 0 = .ok (.aload_n 0, 1) := by decide +kernel
theorem d16_1 : decode cD12 1 = .ok (.getfield 9, 3) := by decide +kernel
theorem d16_4 : decode cD12 4 = .ok (.arraylength, 1) := by decide +kernel
theorem d16_5 : decode cD12 5 = .ok (.aload_n 0, 1) := by decide +kernel
theorem d16_6 : decode cD12 6 = .ok (.invokevirtual 335, 3) := by decide +kernel
theorem d16_9 : decode cD12 9 = .ok (.ishr, 1) := by decide +kernel
theorem d16_10 : decode cD12 10 = .ok (.ireturn, 1) := by decide +kernel
theorem pn_16 : plainName "java/lang/String" = true := by first | (simp [plainName, overriddenIn]; done) | decide +kernel
theorem pd_15 : parseMethodDescriptor "()B" = some ⟨[], some .byte⟩ := by decide +kernel
theorem ef_rmLenL (m : MethodId) (y0 : Addr) : entryFrame m #[(.ref y0)] 1 = (mkF m 0 #[vR y0] []) := by first | (simp [entryFrame, mkF, argsToLocals, Value.category]; done) | rfl
def Q_rmLenL (Z : State) (a1 : Addr) (bs : List Int32) (t1 : Addr) (k1 : ClassId) (cs0 : Int32) (h0 : Heap) (n0 : Nat) (v : Option Value) (h : Heap) (L : List Loc) : Prop := v = some (.int (Int32.ofNat bs.length)) ∧ Fr n0 L ∧ h = h0
set_option maxRecDepth 65536 in
set_option maxHeartbeats 40000000 in
theorem rmLenL (l : Launch) (Z : State) (a0 : Array Value) (hw : ∀ d ∈ tables_1, d.before a0 Z = true) (ws : List Jvm.Cond) (a1 : Addr) (bs : List Int32) (t1 : Addr) (k1 : ClassId) (cs0 : Int32) (h0 : Heap) (n0 : Nat) (O0 : Old Z n0 h0) (S_CS : SCS Z cs0) (c_CS : ¬ (cs0 = (0 : Int32))) (E1 : Exa Z h0 a1 "java/lang/String") (F1 : Fld Z h0 a1 "java/lang/String" "value" "[B" (.ref t1)) (F2 : Fld Z h0 a1 "java/lang/String" "coder" "B" (.int 0)) (V1 : Arv Z h0 t1 k1 .byte (Int32.ofNat bs.length) (bs.map Value.int) (.int 0)) (hn : bs.length ≤ 257) :
  MetFree l mN12 (head1 (Jvm.Cond.code mN12 jdk_42_method_54_code 1 (some .int) :: ws) (Rm 1 0 0 20)) (fun a U => a = #[(.ref a1)] ∧ Z.Warmed39 U.vm ∧ U.heap = h0) (fun _ _ _ _ _ => True) (fun _ U o U' => ∃ v L, o = .returned v ∧ Q_rmLenL Z a1 bs t1 k1 cs0 h0 n0 v U'.heap L ∧ FrameEnd U o U' L (Rm 1 0 0 20).cells (Rm 1 0 0 20).slots) := by
 refine MetFree.of_bodySF (plainFor_of_name pn_16) hisR ?_
 intro p e s m args below meth c s₁ Bd hml0 hP hK
 obtain ⟨rfl, hZ, hh⟩ := hP
 have hx := Bd.exec
 have hby := Bd.bytes
 have hml : c.maxLocals = 1 := hml0
 have hown : s.vm.findClass "java/lang/String" = some m.cls := findClass_of_methodNamed Bd.named
 have hnm := (name_of_methodNamed Bd.named Bd.method).1
 have X0 : Stand p l e (Rm 1 0 0 20) s m #[(.ref a1)] below meth c s₁ [] 0 0 := Stand.of_body Bd
 have e0 : s₁.heap = h0 := by rw [← hh, Bd.state]; rfl
 have N0 := Fr.nil n0
 have hn0 : n0 ≤ h0.size := O0.1 ▸ O0.2.1
 have pre0 : ∀ t, SS p e below s₁ m 0 #[vR a1] [] t → Steps p.tables e below (s₁.setTop (entryFrame m #[(.ref a1)] 1)) t := fun t k => castTop (ef_rmLenL m a1) k
 obtain ⟨T101, X101, e101, st101⟩ := getF X0 hx hZ hown (host := "") (Or.inl (tw hw 29 rfl)) Via.refl e0 F1 (g := (mkF m 1 #[vR a1] [(.ref a1)])) rfl rfl (hb hby d16_1)
 obtain ⟨cl102, Ar102, q102, S102, Nn102, H102, G102⟩ := id V1
 obtain ⟨cq103, kq103, q103a, q103b, q103c⟩ := isOf hZ e101 E1
 obtain ⟨_, _, ⟨T103, L103, k103, n103⟩, -, X103, ⟨Lc103, hQ103, l103, y103, z103⟩, st103⟩ := X101.virtualBack hx (y := mN10) (z := mN10) hown (mvT hZ (tw hw 75 rfl)) (mvT hZ (tw hw 76 rfl)) (notFace_of_selects (args := #[]) (mvT hZ (tw hw 78 rfl))) (mvT hZ (tw hw 78 rfl)) (mvT hZ (tw hw 77 rfl)) (by decide) (backOf (W := 1) (rmCoderL l Z a0 hw [] a1 bs t1 k1 cs0 h0 n0 O0 S_CS c_CS E1 F1 F2 V1 hn) hZ (tw hw 79 rfl) (tw hw 11 rfl) (by decide) (by decide)) q103a q103c (g := (mkF m 6 #[vR a1] [(.ref a1), (.int (Int32.ofNat bs.length))])) rfl (by rw [hml]; rfl) (Steps.refl _) (argsL := []) (rest := [(.int (Int32.ofNat bs.length))]) (lenOf pd_15 rfl) rfl (by show 2 * 0 + _ ≤ _; exact Nat.le_of_eq rfl) (hb hby d16_6) (fun _ _ => ⟨rfl, e101, (by decide : 0 + 0 ≤ _), (by decide : 0 + 0 ≤ _)⟩)
 dsimp only [Pt.U, Pt.locs, Pt.cells, Pt.slots] at X103 l103 y103 z103 st103 hQ103
 subst l103 y103 z103
 obtain ⟨rfl, N103q, H103⟩ := hQ103
 have N103 := Fr.app N0 N103q
 obtain ⟨fs, hr, hrun, hended, hW, hsame⟩ := X103.leave (v := some (.int ((Int32.ofNat bs.length) >>> ((0 : Int32) &&& 31)))) (fun h => by rw [Bd.returns] at h; cases h)
 refine ⟨_, _, pre0 _ ?_, hrun, hended, _, _, rfl, ?_, ⟨_, rfl⟩, hW, hsame.mono (by decide) (by decide)⟩
 ·skip
  show SS p e below s₁ m 0 #[vR a1] [] _
  refine XS.aloadN X0.here hx rfl (hb hby d16_0) rfl rfl ?_
  show SS p e below s₁ m 1 #[vR a1] [(.ref a1)] _
  refine st101 _ ?_
  show SS p e below T101 m 4 #[vR a1] [(.ref t1)] _
  refine X101.arraylength hx (by rw [e101]; exact Ar102.1) (State.isArrayOf_alike hZ.alike Ar102.2.1) (g := (mkF m 4 #[vR a1] [(.ref t1)])) rfl rfl (hb hby d16_4) _ ?_
  rw [len_of S102 Nn102]
  refine XS.aloadN X101.here hx rfl (hb hby d16_5) rfl rfl ?_
  show SS p e below T101 m 6 #[vR a1] [(.ref a1), (.int (Int32.ofNat bs.length))] _
  refine st103.trans ?_
  show SS p e below T103 m 9 #[vR a1] [(.int 0), (.int (Int32.ofNat bs.length))] _
  refine XS.ishr X103.here hx rfl (hb hby d16_9) rfl ?_
  show SS p e below T103 m 10 #[vR a1] [(.int ((Int32.ofNat bs.length) >>> ((0 : Int32) &&& 31)))] _
  exact retI X103 hx Bd.returns (hb hby d16_10) hr
 ·show Q_rmLenL Z a1 bs t1 k1 cs0 h0 n0 _ T103.heap _
  rw [H103]
  exact ⟨congrArg (fun z => some (Value.int z)) (own_shr0 _), N103, rfl⟩
theorem ef_rmCoderU (m : MethodId) (y0 : Addr) : entryFrame m #[(.ref y0)] 1 = (mkF m 0 #[vR y0] []) := by first | (simp [entryFrame, mkF, argsToLocals, Value.category]; done) | rfl
def Q_rmCoderU (Z : State) (a1 : Addr) (cs : List Int32) (t1 : Addr) (k1 : ClassId) (cs0 : Int32) (h0 : Heap) (n0 : Nat) (v : Option Value) (h : Heap) (L : List Loc) : Prop := v = some (.int 1) ∧ Fr n0 L ∧ h = h0
set_option maxRecDepth 65536 in
set_option maxHeartbeats 40000000 in
theorem rmCoderU (l : Launch) (Z : State) (a0 : Array Value) (hw : ∀ d ∈ tables_1, d.before a0 Z = true) (ws : List Jvm.Cond) (a1 : Addr) (cs : List Int32) (t1 : Addr) (k1 : ClassId) (cs0 : Int32) (h0 : Heap) (n0 : Nat) (O0 : Old Z n0 h0) (S_CS : SCS Z cs0) (c_CS : ¬ (cs0 = (0 : Int32))) (E1 : Exa Z h0 a1 "java/lang/String") (F1 : Fld Z h0 a1 "java/lang/String" "value" "[B" (.ref t1)) (F2 : Fld Z h0 a1 "java/lang/String" "coder" "B" (.int 1)) (V1 : Arv Z h0 t1 k1 .byte (Int32.ofNat (2 * cs.length)) (u16 cs) (.int 0)) (hn : cs.length ≤ 257) :
  MetFree l mN10 (head1 (Jvm.Cond.code mN10 jdk_42_method_152_code 1 (some .byte) :: ws) (Rm 0 0 0 0)) (fun a U => a = #[(.ref a1)] ∧ Z.Warmed39 U.vm ∧ U.heap = h0) (fun _ _ _ _ _ => True) (fun _ U o U' => ∃ v L, o = .returned v ∧ Q_rmCoderU Z a1 cs t1 k1 cs0 h0 n0 v U'.heap L ∧ FrameEnd U o U' L (Rm 0 0 0 0).cells (Rm 0 0 0 0).slots) := by
 refine MetFree.of_bodySF (plainFor_of_name pn_17) hisR ?_
 intro p e s m args below meth c s₁ Bd hml0 hP hK
 obtain ⟨rfl, hZ, hh⟩ := hP
 have hx := Bd.exec
 have hby := Bd.bytes
 have hml : c.maxLocals = 1 := hml0
 have hown : s.vm.findClass "java/lang/String" = some m.cls := findClass_of_methodNamed Bd.named
 have hnm := (name_of_methodNamed Bd.named Bd.method).1
 have X0 : Stand p l e (Rm 0 0 0 0) s m #[(.ref a1)] below meth c s₁ [] 0 0 := Stand.of_body Bd
 have e0 : s₁.heap = h0 := by rw [← hh, Bd.state]; rfl
 have N0 := Fr.nil n0
 have hn0 : n0 ≤ h0.size := O0.1 ▸ O0.2.1
 have pre0 : ∀ t, SS p e below s₁ m 0 #[vR a1] [] t → Steps p.tables e below (s₁.setTop (entryFrame m #[(.ref a1)] 1)) t := fun t k => castTop (ef_rmCoderU m a1) k
 obtain ⟨T101, X101, e101, st101⟩ := getS2 X0 hx hZ hown (host := "") (Or.inl (tw hw 40 rfl)) Via.refl e0 (Sta.ext O0.2 S_CS) (g := (mkF m 0 #[vR a1] [])) rfl (hb hby d17_0)
 obtain ⟨T102, X102, e102, st102⟩ := getF X101 hx hZ hown (host := "") (Or.inl (tw hw 30 rfl)) Via.refl e101 F2 (g := (mkF m 7 #[vR a1] [(.ref a1)])) rfl rfl (hb hby d17_7)
 obtain ⟨fs, hr, hrun, hended, hW, hsame⟩ := X102.leave (v := some (.int 1)) (fun h => by rw [Bd.returns] at h; cases h)
 refine ⟨_, _, pre0 _ ?_, hrun, hended, _, _, rfl, ?_, ⟨_, rfl⟩, hW, hsame.mono (by decide) (by decide)⟩
 ·skip
  show SS p e below s₁ m 0 #[vR a1] [] _
  refine st101 _ ?_
  refine XS.ifNo X101.here hx rfl (hb hby d17_3) rfl ((if0 _ _).trans (feq (c_CS : ¬ (cs0 = (0 : Int32)))).1) ?_
  refine XS.aloadN X101.here hx rfl (hb hby d17_6) rfl rfl ?_
  show SS p e below T101 m 7 #[vR a1] [(.ref a1)] _
  refine st102 _ ?_
  refine XS.goto X102.here hx rfl (pc0 := 10) (pc' := 14) rfl (hb hby d17_10) (by decide) (by decide) ?_
  show SS p e below T102 m 14 #[vR a1] [(.int 1)] _
  exact retN X102 hx (t := .byte) Bd.returns (by simp) (hb hby d17_14) hr
 ·show Q_rmCoderU Z a1 cs t1 k1 cs0 h0 n0 _ T102.heap _
  rw [e102]
  exact ⟨rfl, N0, rfl⟩
theorem d21_17 : decode cD11 17 = .ok (.iconst 0, 1) := by decide +kernel
theorem ef_rmIsLatU (m : MethodId) (y0 : Addr) : entryFrame m #[(.ref y0)] 1 = (mkF m 0 #[vR y0] []) := by first | (simp [entryFrame, mkF, argsToLocals, Value.category]; done) | rfl
def Q_rmIsLatU (Z : State) (a1 : Addr) (cs : List Int32) (t1 : Addr) (k1 : ClassId) (cs0 : Int32) (h0 : Heap) (n0 : Nat) (v : Option Value) (h : Heap) (L : List Loc) : Prop := v = some (.int 0) ∧ Fr n0 L ∧ h = h0
set_option maxRecDepth 65536 in
set_option maxHeartbeats 40000000 in
theorem rmIsLatU (l : Launch) (Z : State) (a0 : Array Value) (hw : ∀ d ∈ tables_1, d.before a0 Z = true) (ws : List Jvm.Cond) (a1 : Addr) (cs : List Int32) (t1 : Addr) (k1 : ClassId) (cs0 : Int32) (h0 : Heap) (n0 : Nat) (O0 : Old Z n0 h0) (S_CS : SCS Z cs0) (c_CS : ¬ (cs0 = (0 : Int32))) (E1 : Exa Z h0 a1 "java/lang/String") (F1 : Fld Z h0 a1 "java/lang/String" "value" "[B" (.ref t1)) (F2 : Fld Z h0 a1 "java/lang/String" "coder" "B" (.int 1)) (V1 : Arv Z h0 t1 k1 .byte (Int32.ofNat (2 * cs.length)) (u16 cs) (.int 0)) (hn : cs.length ≤ 257) :
  MetFree l mN11 (head1 (Jvm.Cond.code mN11 jdk_42_method_154_code 1 (some .boolean) :: ws) (Rm 0 0 0 0)) (fun a U => a = #[(.ref a1)] ∧ Z.Warmed39 U.vm ∧ U.heap = h0) (fun _ _ _ _ _ => True) (fun _ U o U' => ∃ v L, o = .returned v ∧ Q_rmIsLatU Z a1 cs t1 k1 cs0 h0 n0 v U'.heap L ∧ FrameEnd U o U' L (Rm 0 0 0 0).cells (Rm 0 0 0 0).slots) := by
 refine MetFree.of_bodySF (plainFor_of_name pn_21) hisR ?_
 intro p e s m args below meth c s₁ Bd hml0 hP hK
 obtain ⟨rfl, hZ, hh⟩ := hP
 have hx := Bd.exec
 have hby := Bd.bytes
 have hml : c.maxLocals = 1 := hml0
 have hown : s.vm.findClass "java/lang/String" = some m.cls := findClass_of_methodNamed Bd.named
 have hnm := (name_of_methodNamed Bd.named Bd.method).1
 have X0 : Stand p l e (Rm 0 0 0 0) s m #[(.ref a1)] below meth c s₁ [] 0 0 := Stand.of_body Bd
 have e0 : s₁.heap = h0 := by rw [← hh, Bd.state]; rfl
 have N0 := Fr.nil n0
 have hn0 : n0 ≤ h0.size := O0.1 ▸ O0.2.1
 have pre0 : ∀ t, SS p e below s₁ m 0 #[vR a1] [] t → Steps p.tables e below (s₁.setTop (entryFrame m #[(.ref a1)] 1)) t := fun t k => castTop (ef_rmIsLatU m a1) k
 obtain ⟨T101, X101, e101, st101⟩ := getS2 X0 hx hZ hown (host := "") (Or.inl (tw hw 40 rfl)) Via.refl e0 (Sta.ext O0.2 S_CS) (g := (mkF m 0 #[vR a1] [])) rfl (hb hby d21_0)
 obtain ⟨T102, X102, e102, st102⟩ := getF X101 hx hZ hown (host := "") (Or.inl (tw hw 30 rfl)) Via.refl e101 F2 (g := (mkF m 7 #[vR a1] [(.ref a1)])) rfl rfl (hb hby d21_7)
 obtain ⟨fs, hr, hrun, hended, hW, hsame⟩ := X102.leave (v := some (.int 0)) (fun h => by rw [Bd.returns] at h; cases h)
 refine ⟨_, _, pre0 _ ?_, hrun, hended, _, _, rfl, ?_, ⟨_, rfl⟩, hW, hsame.mono (by decide) (by decide)⟩
 ·skip
  show SS p e below s₁ m 0 #[vR a1] [] _
  refine st101 _ ?_
  refine XS.ifNo X101.here hx rfl (hb hby d21_3) rfl ((if0 _ _).trans (feq (c_CS : ¬ (cs0 = (0 : Int32)))).1) ?_
  refine XS.aloadN X101.here hx rfl (hb hby d21_6) rfl rfl ?_
  show SS p e below T101 m 7 #[vR a1] [(.ref a1)] _
  refine st102 _ ?_
  refine XS.ifYes X102.here hx rfl (pc0 := 10) (pc' := 17) rfl (hb hby d21_10) rfl ((if0 _ _).trans (feq (by decide : ¬ ((1 : Int32) = (0 : Int32)))).2) (by decide) (by decide) ?_
  refine XS.iconst X102.here hx rfl (hb hby d21_17) ?_
  show SS p e below T102 m 18 #[vR a1] [(.int 0)] _
  exact retN X102 hx (t := .boolean) Bd.returns (by simp) (hb hby d21_18) hr
 ·show Q_rmIsLatU Z a1 cs t1 k1 cs0 h0 n0 _ T102.heap _
  rw [e102]
  exact ⟨rfl, N0, rfl⟩
theorem ef_rmLenU (m : MethodId) (y0 : Addr) : entryFrame m #[(.ref y0)] 1 = (mkF m 0 #[vR y0] []) := by first | (simp [entryFrame, mkF, argsToLocals, Value.category]; done) | rfl
def Q_rmLenU (Z : State) (a1 : Addr) (cs : List Int32) (t1 : Addr) (k1 : ClassId) (cs0 : Int32) (h0 : Heap) (n0 : Nat) (v : Option Value) (h : Heap) (L : List Loc) : Prop := v = some (.int (Int32.ofNat cs.length)) ∧ Fr n0 L ∧ h = h0
set_option maxRecDepth 65536 in
set_option maxHeartbeats 40000000 in
theorem rmLenU (l : Launch) (Z : State) (a0 : Array Value) (hw : ∀ d ∈ tables_1, d.before a0 Z = true) (ws : List Jvm.Cond) (a1 : Addr) (cs : List Int32) (t1 : Addr) (k1 : ClassId) (cs0 : Int32) (h0 : Heap) (n0 : Nat) (O0 : Old Z n0 h0) (S_CS : SCS Z cs0) (c_CS : ¬ (cs0 = (0 : Int32))) (E1 : Exa Z h0 a1 "java/lang/String") (F1 : Fld Z h0 a1 "java/lang/String" "value" "[B" (.ref t1)) (F2 : Fld Z h0 a1 "java/lang/String" "coder" "B" (.int 1)) (V1 : Arv Z h0 t1 k1 .byte (Int32.ofNat (2 * cs.length)) (u16 cs) (.int 0)) (hn : cs.length ≤ 257) :
  MetFree l mN12 (head1 (Jvm.Cond.code mN12 jdk_42_method_54_code 1 (some .int) :: ws) (Rm 1 0 0 20)) (fun a U => a = #[(.ref a1)] ∧ Z.Warmed39 U.vm ∧ U.heap = h0) (fun _ _ _ _ _ => True) (fun _ U o U' => ∃ v L, o = .returned v ∧ Q_rmLenU Z a1 cs t1 k1 cs0 h0 n0 v U'.heap L ∧ FrameEnd U o U' L (Rm 1 0 0 20).cells (Rm 1 0 0 20).slots) := by
 refine MetFree.of_bodySF (plainFor_of_name pn_16) hisR ?_
 intro p e s m args below meth c s₁ Bd hml0 hP hK
 obtain ⟨rfl, hZ, hh⟩ := hP
 have hx := Bd.exec
 have hby := Bd.bytes
 have hml : c.maxLocals = 1 := hml0
 have hown : s.vm.findClass "java/lang/String" = some m.cls := findClass_of_methodNamed Bd.named
 have hnm := (name_of_methodNamed Bd.named Bd.method).1
 have X0 : Stand p l e (Rm 1 0 0 20) s m #[(.ref a1)] below meth c s₁ [] 0 0 := Stand.of_body Bd
 have e0 : s₁.heap = h0 := by rw [← hh, Bd.state]; rfl
 have N0 := Fr.nil n0
 have hn0 : n0 ≤ h0.size := O0.1 ▸ O0.2.1
 have pre0 : ∀ t, SS p e below s₁ m 0 #[vR a1] [] t → Steps p.tables e below (s₁.setTop (entryFrame m #[(.ref a1)] 1)) t := fun t k => castTop (ef_rmLenU m a1) k
 obtain ⟨T101, X101, e101, st101⟩ := getF X0 hx hZ hown (host := "") (Or.inl (tw hw 29 rfl)) Via.refl e0 F1 (g := (mkF m 1 #[vR a1] [(.ref a1)])) rfl rfl (hb hby d16_1)
 obtain ⟨cl102, Ar102, q102, S102, Nn102, H102, G102⟩ := id V1
 obtain ⟨cq103, kq103, q103a, q103b, q103c⟩ := isOf hZ e101 E1
 obtain ⟨_, _, ⟨T103, L103, k103, n103⟩, -, X103, ⟨Lc103, hQ103, l103, y103, z103⟩, st103⟩ := X101.virtualBack hx (y := mN10) (z := mN10) hown (mvT hZ (tw hw 75 rfl)) (mvT hZ (tw hw 76 rfl)) (notFace_of_selects (args := #[]) (mvT hZ (tw hw 78 rfl))) (mvT hZ (tw hw 78 rfl)) (mvT hZ (tw hw 77 rfl)) (by decide) (backOf (W := 1) (rmCoderU l Z a0 hw [] a1 cs t1 k1 cs0 h0 n0 O0 S_CS c_CS E1 F1 F2 V1 hn) hZ (tw hw 79 rfl) (tw hw 11 rfl) (by decide) (by decide)) q103a q103c (g := (mkF m 6 #[vR a1] [(.ref a1), (.int (Int32.ofNat (2 * cs.length)))])) rfl (by rw [hml]; rfl) (Steps.refl _) (argsL := []) (rest := [(.int (Int32.ofNat (2 * cs.length)))]) (lenOf pd_15 rfl) rfl (by show 2 * 0 + _ ≤ _; exact Nat.le_of_eq rfl) (hb hby d16_6) (fun _ _ => ⟨rfl, e101, (by decide : 0 + 0 ≤ _), (by decide : 0 + 0 ≤ _)⟩)
 dsimp only [Pt.U, Pt.locs, Pt.cells, Pt.slots] at X103 l103 y103 z103 st103 hQ103
 subst l103 y103 z103
 obtain ⟨rfl, N103q, H103⟩ := hQ103
 have N103 := Fr.app N0 N103q
 obtain ⟨fs, hr, hrun, hended, hW, hsame⟩ := X103.leave (v := some (.int ((Int32.ofNat (2 * cs.length)) >>> ((1 : Int32) &&& 31)))) (fun h => by rw [Bd.returns] at h; cases h)
 refine ⟨_, _, pre0 _ ?_, hrun, hended, _, _, rfl, ?_, ⟨_, rfl⟩, hW, hsame.mono (by decide) (by decide)⟩
 ·skip
  show SS p e below s₁ m 0 #[vR a1] [] _
  refine XS.aloadN X0.here hx rfl (hb hby d16_0) rfl rfl ?_
  show SS p e below s₁ m 1 #[vR a1] [(.ref a1)] _
  refine st101 _ ?_
  show SS p e below T101 m 4 #[vR a1] [(.ref t1)] _
  refine X101.arraylength hx (by rw [e101]; exact Ar102.1) (State.isArrayOf_alike hZ.alike Ar102.2.1) (g := (mkF m 4 #[vR a1] [(.ref t1)])) rfl rfl (hb hby d16_4) _ ?_
  rw [len_of S102 Nn102]
  refine XS.aloadN X101.here hx rfl (hb hby d16_5) rfl rfl ?_
  show SS p e below T101 m 6 #[vR a1] [(.ref a1), (.int (Int32.ofNat (2 * cs.length)))] _
  refine st103.trans ?_
  show SS p e below T103 m 9 #[vR a1] [(.int 1), (.int (Int32.ofNat (2 * cs.length)))] _
  refine XS.ishr X103.here hx rfl (hb hby d16_9) rfl ?_
  show SS p e below T103 m 10 #[vR a1] [(.int ((Int32.ofNat (2 * cs.length)) >>> ((1 : Int32) &&& 31)))] _
  exact retI X103 hx Bd.returns (hb hby d16_10) hr
 ·show Q_rmLenU Z a1 cs t1 k1 cs0 h0 n0 _ T103.heap _
  rw [H103]
  exact ⟨congrArg (fun z => some (Value.int z)) (own_shr1 (by omega)), N103, rfl⟩
theorem d24_0 : decode cD13 0 = .ok (.iload_n 0, 1) := by decide +kernel
theorem d24_1 : decode cD13 1 = .ok (.ldc 75, 2) := by decide +kernel
theorem d24_3 : decode cD13 3 = .ok (.if_icmp .lt 13, 3) := by decide +kernel
theorem d24_6 : decode cD13 6 = .ok (.iload_n 0, 1) := by decide +kernel
theorem d24_7 : decode cD13 7 = .ok (.ldc 76, 2) := by decide +kernel
theorem d24_9 : decode cD13 9 = .ok (.if_icmp .ge 7, 3) := by decide +kernel
theorem d24_12 : decode cD13 12 = .ok (.iconst 1, 1) := by decide +kernel
theorem d24_13 : decode cD13 13 = .ok (.goto 4, 3) := by decide +kernel
theorem d24_16 : decode cD13 16 = .ok (.iconst 0, 1) := by decide +kernel
theorem d24_17 : decode cD13 17 = .ok (.ireturn, 1) := by decide +kernel
theorem pn_24 : plainName "java/lang/Character" = true := by first | (simp [plainName, overriddenIn]; done) | decide +kernel
theorem ef_rmisHighSurrogate (m : MethodId) (y0 : Int32) : entryFrame m #[(.int y0)] 1 = (mkF m 0 #[vI y0] []) := by first | (simp [entryFrame, mkF, argsToLocals, Value.category]; done) | rfl
def Q_rmisHighSurrogate (Z : State) (p1 : Int32) (h0 : Heap) (n0 : Nat) (v : Option Value) (h : Heap) (L : List Loc) : Prop := v = some (.int (hiS p1)) ∧ Fr n0 L ∧ h = h0
set_option maxRecDepth 65536 in
set_option maxHeartbeats 40000000 in
theorem rmisHighSurrogate (l : Launch) (Z : State) (a0 : Array Value) (hw : ∀ d ∈ tables_1, d.before a0 Z = true) (ws : List Jvm.Cond) (p1 : Int32) (h0 : Heap) (n0 : Nat) (O0 : Old Z n0 h0) :
  MetFree l mN13 (head1 (Jvm.Cond.code mN13 jdk_89_method_14_code 1 (some .boolean) :: ws) (Rm 0 0 0 0)) (fun a U => a = #[(.int p1)] ∧ Z.Warmed39 U.vm ∧ U.heap = h0) (fun _ _ _ _ _ => True) (fun _ U o U' => ∃ v L, o = .returned v ∧ Q_rmisHighSurrogate Z p1 h0 n0 v U'.heap L ∧ FrameEnd U o U' L (Rm 0 0 0 0).cells (Rm 0 0 0 0).slots) := by
 refine MetFree.of_bodySF (plainFor_of_name pn_24) hisR ?_
 intro p e s m args below meth c s₁ Bd hml0 hP hK
 obtain ⟨rfl, hZ, hh⟩ := hP
 have hx := Bd.exec
 have hby := Bd.bytes
 have hml : c.maxLocals = 1 := hml0
 have hown : s.vm.findClass "java/lang/Character" = some m.cls := findClass_of_methodNamed Bd.named
 have hnm := (name_of_methodNamed Bd.named Bd.method).1
 have X0 : Stand p l e (Rm 0 0 0 0) s m #[(.int p1)] below meth c s₁ [] 0 0 := Stand.of_body Bd
 have e0 : s₁.heap = h0 := by rw [← hh, Bd.state]; rfl
 have N0 := Fr.nil n0
 have hn0 : n0 ≤ h0.size := O0.1 ▸ O0.2.1
 have pre0 : ∀ t, SS p e below s₁ m 0 #[vI p1] [] t → Steps p.tables e below (s₁.setTop (entryFrame m #[(.int p1)] 1)) t := fun t k => castTop (ef_rmisHighSurrogate m p1) k
 have pre102 : ∀ t, SS p e below s₁ m 3 #[vI p1] [(.int 55296), (.int p1)] t → Steps p.tables e below (s₁.setTop (entryFrame m #[(.int p1)] 1)) t := by
  intro t kt
  refine pre0 _ ?_
  show SS p e below s₁ m 0 #[vI p1] [] _
  refine XS.iloadN X0.here hx rfl (hb hby d24_0) rfl ?_
  show SS p e below s₁ m 1 #[vI p1] [(.int p1)] _
  refine X0.ldcInt hx hown (mvT hZ (tw hw 109 rfl)) (g := (mkF m 1 #[vI p1] [(.int p1)])) rfl (hb hby d24_1) _ ?_
  exact kt
 by_cases hc101 : p1 < (55296 : Int32)
 ·skip
  obtain ⟨fs, hr, hrun, hended, hW, hsame⟩ := X0.leave (v := some (.int 0)) (fun h => by rw [Bd.returns] at h; cases h)
  refine ⟨_, _, pre102 _ ?_, hrun, hended, _, _, rfl, ?_, ⟨_, rfl⟩, hW, hsame.mono (by decide) (by decide)⟩
  ·skip
   show SS p e below s₁ m 3 #[vI p1] [(.int 55296), (.int p1)] _
   refine XS.icmpYes X0.here hx rfl (pc0 := 3) (pc' := 16) rfl (hb hby d24_3) rfl (tlt hc101).1 (by decide) (by decide) ?_
   refine XS.iconst X0.here hx rfl (hb hby d24_16) ?_
   show SS p e below s₁ m 17 #[vI p1] [(.int 0)] _
   exact retN X0 hx (t := .boolean) Bd.returns (by simp) (hb hby d24_17) hr
  ·show Q_rmisHighSurrogate Z p1 h0 n0 _ s₁.heap _
   rw [e0]
   exact ⟨by rw [hiS, if_neg (fun q => q.1 hc101)], N0, rfl⟩
 ·skip
  have pre104 : ∀ t, SS p e below s₁ m 9 #[vI p1] [(.int 56320), (.int p1)] t → Steps p.tables e below (s₁.setTop (entryFrame m #[(.int p1)] 1)) t := by
   intro t kt
   refine pre102 _ ?_
   show SS p e below s₁ m 3 #[vI p1] [(.int 55296), (.int p1)] _
   refine XS.icmpNo X0.here hx rfl (hb hby d24_3) rfl (flt hc101).1 ?_
   refine XS.iloadN X0.here hx rfl (hb hby d24_6) rfl ?_
   show SS p e below s₁ m 7 #[vI p1] [(.int p1)] _
   refine X0.ldcInt hx hown (mvT hZ (tw hw 110 rfl)) (g := (mkF m 7 #[vI p1] [(.int p1)])) rfl (hb hby d24_7) _ ?_
   exact kt
  by_cases hc103 : p1 < (56320 : Int32)
  ·skip
   obtain ⟨fs, hr, hrun, hended, hW, hsame⟩ := X0.leave (v := some (.int 1)) (fun h => by rw [Bd.returns] at h; cases h)
   refine ⟨_, _, pre104 _ ?_, hrun, hended, _, _, rfl, ?_, ⟨_, rfl⟩, hW, hsame.mono (by decide) (by decide)⟩
   ·skip
    show SS p e below s₁ m 9 #[vI p1] [(.int 56320), (.int p1)] _
    refine XS.icmpNo X0.here hx rfl (hb hby d24_9) rfl (tlt hc103).2.1 ?_
    refine XS.iconst X0.here hx rfl (hb hby d24_12) ?_
    refine XS.goto X0.here hx rfl (pc0 := 13) (pc' := 17) rfl (hb hby d24_13) (by decide) (by decide) ?_
    show SS p e below s₁ m 17 #[vI p1] [(.int 1)] _
    exact retN X0 hx (t := .boolean) Bd.returns (by simp) (hb hby d24_17) hr
   ·show Q_rmisHighSurrogate Z p1 h0 n0 _ s₁.heap _
    rw [e0]
    exact ⟨by rw [hiS, if_pos ⟨hc101, hc103⟩], N0, rfl⟩
  ·skip
   obtain ⟨fs, hr, hrun, hended, hW, hsame⟩ := X0.leave (v := some (.int 0)) (fun h => by rw [Bd.returns] at h; cases h)
   refine ⟨_, _, pre104 _ ?_, hrun, hended, _, _, rfl, ?_, ⟨_, rfl⟩, hW, hsame.mono (by decide) (by decide)⟩
   ·skip
    show SS p e below s₁ m 9 #[vI p1] [(.int 56320), (.int p1)] _
    refine XS.icmpYes X0.here hx rfl (pc0 := 9) (pc' := 16) rfl (hb hby d24_9) rfl (flt hc103).2.1 (by decide) (by decide) ?_
    refine XS.iconst X0.here hx rfl (hb hby d24_16) ?_
    show SS p e below s₁ m 17 #[vI p1] [(.int 0)] _
    exact retN X0 hx (t := .boolean) Bd.returns (by simp) (hb hby d24_17) hr
   ·show Q_rmisHighSurrogate Z p1 h0 n0 _ s₁.heap _
    rw [e0]
    exact ⟨by rw [hiS, if_neg (fun q => hc103 q.2)], N0, rfl⟩
theorem d37_0 : decode cD14 0 = .ok (.iload_n 0, 1) := by decide +kernel
theorem d37_1 : decode cD14 1 = .ok (.ldc 76, 2) := by decide +kernel
theorem d37_3 : decode cD14 3 = .ok (.if_icmp .lt 13, 3) := by decide +kernel
theorem d37_6 : decode cD14 6 = .ok (.iload_n 0, 1) := by decide +kernel
theorem d37_7 : decode cD14 7 = .ok (.ldc 77, 2) := by decide +kernel
theorem d37_9 : decode cD14 9 = .ok (.if_icmp .ge 7, 3) := by decide +kernel
theorem d37_12 : decode cD14 12 = .ok (.iconst 1, 1) := by decide +kernel
theorem d37_13 : decode cD14 13 = .ok (.goto 4, 3) := by decide +kernel
theorem d37_16 : decode cD14 16 = .ok (.iconst 0, 1) := by decide +kernel
theorem d37_17 : decode cD14 17 = .ok (.ireturn, 1) := by decide +kernel
theorem pn_37 : plainName "java/lang/Character" = true := by first | (simp [plainName, overriddenIn]; done) | decide +kernel
theorem ef_rmisLowSurrogate (m : MethodId) (y0 : Int32) : entryFrame m #[(.int y0)] 1 = (mkF m 0 #[vI y0] []) := by first | (simp [entryFrame, mkF, argsToLocals, Value.category]; done) | rfl
def Q_rmisLowSurrogate (Z : State) (p1 : Int32) (h0 : Heap) (n0 : Nat) (v : Option Value) (h : Heap) (L : List Loc) : Prop := v = some (.int (loS p1)) ∧ Fr n0 L ∧ h = h0
set_option maxRecDepth 65536 in
set_option maxHeartbeats 40000000 in
theorem rmisLowSurrogate (l : Launch) (Z : State) (a0 : Array Value) (hw : ∀ d ∈ tables_1, d.before a0 Z = true) (ws : List Jvm.Cond) (p1 : Int32) (h0 : Heap) (n0 : Nat) (O0 : Old Z n0 h0) :
  MetFree l mN14 (head1 (Jvm.Cond.code mN14 jdk_89_method_15_code 1 (some .boolean) :: ws) (Rm 0 0 0 0)) (fun a U => a = #[(.int p1)] ∧ Z.Warmed39 U.vm ∧ U.heap = h0) (fun _ _ _ _ _ => True) (fun _ U o U' => ∃ v L, o = .returned v ∧ Q_rmisLowSurrogate Z p1 h0 n0 v U'.heap L ∧ FrameEnd U o U' L (Rm 0 0 0 0).cells (Rm 0 0 0 0).slots) := by
 refine MetFree.of_bodySF (plainFor_of_name pn_37) hisR ?_
 intro p e s m args below meth c s₁ Bd hml0 hP hK
 obtain ⟨rfl, hZ, hh⟩ := hP
 have hx := Bd.exec
 have hby := Bd.bytes
 have hml : c.maxLocals = 1 := hml0
 have hown : s.vm.findClass "java/lang/Character" = some m.cls := findClass_of_methodNamed Bd.named
 have hnm := (name_of_methodNamed Bd.named Bd.method).1
 have X0 : Stand p l e (Rm 0 0 0 0) s m #[(.int p1)] below meth c s₁ [] 0 0 := Stand.of_body Bd
 have e0 : s₁.heap = h0 := by rw [← hh, Bd.state]; rfl
 have N0 := Fr.nil n0
 have hn0 : n0 ≤ h0.size := O0.1 ▸ O0.2.1
 have pre0 : ∀ t, SS p e below s₁ m 0 #[vI p1] [] t → Steps p.tables e below (s₁.setTop (entryFrame m #[(.int p1)] 1)) t := fun t k => castTop (ef_rmisLowSurrogate m p1) k
 have pre102 : ∀ t, SS p e below s₁ m 3 #[vI p1] [(.int 56320), (.int p1)] t → Steps p.tables e below (s₁.setTop (entryFrame m #[(.int p1)] 1)) t := by
  intro t kt
  refine pre0 _ ?_
  show SS p e below s₁ m 0 #[vI p1] [] _
  refine XS.iloadN X0.here hx rfl (hb hby d37_0) rfl ?_
  show SS p e below s₁ m 1 #[vI p1] [(.int p1)] _
  refine X0.ldcInt hx hown (mvT hZ (tw hw 110 rfl)) (g := (mkF m 1 #[vI p1] [(.int p1)])) rfl (hb hby d37_1) _ ?_
  exact kt
 by_cases hc101 : p1 < (56320 : Int32)
 ·skip
  obtain ⟨fs, hr, hrun, hended, hW, hsame⟩ := X0.leave (v := some (.int 0)) (fun h => by rw [Bd.returns] at h; cases h)
  refine ⟨_, _, pre102 _ ?_, hrun, hended, _, _, rfl, ?_, ⟨_, rfl⟩, hW, hsame.mono (by decide) (by decide)⟩
  ·skip
   show SS p e below s₁ m 3 #[vI p1] [(.int 56320), (.int p1)] _
   refine XS.icmpYes X0.here hx rfl (pc0 := 3) (pc' := 16) rfl (hb hby d37_3) rfl (tlt hc101).1 (by decide) (by decide) ?_
   refine XS.iconst X0.here hx rfl (hb hby d37_16) ?_
   show SS p e below s₁ m 17 #[vI p1] [(.int 0)] _
   exact retN X0 hx (t := .boolean) Bd.returns (by simp) (hb hby d37_17) hr
  ·show Q_rmisLowSurrogate Z p1 h0 n0 _ s₁.heap _
   rw [e0]
   exact ⟨by rw [loS, if_neg (fun q => q.1 hc101)], N0, rfl⟩
 ·skip
  have pre104 : ∀ t, SS p e below s₁ m 9 #[vI p1] [(.int 57344), (.int p1)] t → Steps p.tables e below (s₁.setTop (entryFrame m #[(.int p1)] 1)) t := by
   intro t kt
   refine pre102 _ ?_
   show SS p e below s₁ m 3 #[vI p1] [(.int 56320), (.int p1)] _
   refine XS.icmpNo X0.here hx rfl (hb hby d37_3) rfl (flt hc101).1 ?_
   refine XS.iloadN X0.here hx rfl (hb hby d37_6) rfl ?_
   show SS p e below s₁ m 7 #[vI p1] [(.int p1)] _
   refine X0.ldcInt hx hown (mvT hZ (tw hw 160 rfl)) (g := (mkF m 7 #[vI p1] [(.int p1)])) rfl (hb hby d37_7) _ ?_
   exact kt
  by_cases hc103 : p1 < (57344 : Int32)
  ·skip
   obtain ⟨fs, hr, hrun, hended, hW, hsame⟩ := X0.leave (v := some (.int 1)) (fun h => by rw [Bd.returns] at h; cases h)
   refine ⟨_, _, pre104 _ ?_, hrun, hended, _, _, rfl, ?_, ⟨_, rfl⟩, hW, hsame.mono (by decide) (by decide)⟩
   ·skip
    show SS p e below s₁ m 9 #[vI p1] [(.int 57344), (.int p1)] _
    refine XS.icmpNo X0.here hx rfl (hb hby d37_9) rfl (tlt hc103).2.1 ?_
    refine XS.iconst X0.here hx rfl (hb hby d37_12) ?_
    refine XS.goto X0.here hx rfl (pc0 := 13) (pc' := 17) rfl (hb hby d37_13) (by decide) (by decide) ?_
    show SS p e below s₁ m 17 #[vI p1] [(.int 1)] _
    exact retN X0 hx (t := .boolean) Bd.returns (by simp) (hb hby d37_17) hr
   ·show Q_rmisLowSurrogate Z p1 h0 n0 _ s₁.heap _
    rw [e0]
    exact ⟨by rw [loS, if_pos ⟨hc101, hc103⟩], N0, rfl⟩
  ·skip
   obtain ⟨fs, hr, hrun, hended, hW, hsame⟩ := X0.leave (v := some (.int 0)) (fun h => by rw [Bd.returns] at h; cases h)
   refine ⟨_, _, pre104 _ ?_, hrun, hended, _, _, rfl, ?_, ⟨_, rfl⟩, hW, hsame.mono (by decide) (by decide)⟩
   ·skip
    show SS p e below s₁ m 9 #[vI p1] [(.int 57344), (.int p1)] _
    refine XS.icmpYes X0.here hx rfl (pc0 := 9) (pc' := 16) rfl (hb hby d37_9) rfl (flt hc103).2.1 (by decide) (by decide) ?_
    refine XS.iconst X0.here hx rfl (hb hby d37_16) ?_
    show SS p e below s₁ m 17 #[vI p1] [(.int 0)] _
    exact retN X0 hx (t := .boolean) Bd.returns (by simp) (hb hby d37_17) hr
   ·show Q_rmisLowSurrogate Z p1 h0 n0 _ s₁.heap _
    rw [e0]
    exact ⟨by rw [loS, if_neg (fun q => hc103 q.2)], N0, rfl⟩
theorem d28_0 : decode cD15 0 = .ok (.iload_n 0, 1) := by decide +kernel
theorem d28_1 : decode cD15 1 = .ok (.iload_n 1, 1) := by decide +kernel
theorem d28_2 : decode cD15 2 = .ok (.if_icmp .lt 7, 3) := by decide +kernel
theorem d28_5 : decode cD15 5 = .ok (.iload_n 0, 1) := by decide +kernel
theorem d28_6 : decode cD15 6 = .ok (.goto 4, 3) := by decide +kernel
theorem d28_9 : decode cD15 9 = .ok (.iload_n 1, 1) := by decide +kernel
theorem d28_10 : decode cD15 10 = .ok (.ireturn, 1) := by decide +kernel
theorem ef_rmMmax (m : MethodId) (y0 : Int32) (y1 : Int32) : entryFrame m #[(.int y0), (.int y1)] 2 = (mkF m 0 #[vI y0, vI y1] []) := by first | (simp [entryFrame, mkF, argsToLocals, Value.category]; done) | rfl
def Q_rmMmax (Z : State) (p1 : Int32) (p2 : Int32) (h0 : Heap) (n0 : Nat) (v : Option Value) (h : Heap) (L : List Loc) : Prop := v = some (.int (jmax p1 p2)) ∧ Fr n0 L ∧ h = h0
set_option maxRecDepth 65536 in
set_option maxHeartbeats 40000000 in
theorem rmMmax (l : Launch) (Z : State) (a0 : Array Value) (hw : ∀ d ∈ tables_1, d.before a0 Z = true) (ws : List Jvm.Cond) (p1 : Int32) (p2 : Int32) (h0 : Heap) (n0 : Nat) (O0 : Old Z n0 h0) :
  MetFree l mN15 (head1 (Jvm.Cond.code mN15 jdk_29_method_65_code 2 (some .int) :: ws) (Rm 0 0 0 0)) (fun a U => a = #[(.int p1), (.int p2)] ∧ Z.Warmed39 U.vm ∧ U.heap = h0) (fun _ _ _ _ _ => True) (fun _ U o U' => ∃ v L, o = .returned v ∧ Q_rmMmax Z p1 p2 h0 n0 v U'.heap L ∧ FrameEnd U o U' L (Rm 0 0 0 0).cells (Rm 0 0 0 0).slots) := by
 refine MetFree.of_bodySF (Jvm.Free.JP.mathPlain rfl (by decide +kernel)) hisR ?_
 intro p e s m args below meth c s₁ Bd hml0 hP hK
 obtain ⟨rfl, hZ, hh⟩ := hP
 have hx := Bd.exec
 have hby := Bd.bytes
 have hml : c.maxLocals = 2 := hml0
 have hown : s.vm.findClass "java/lang/Math" = some m.cls := findClass_of_methodNamed Bd.named
 have hnm := (name_of_methodNamed Bd.named Bd.method).1
 have X0 : Stand p l e (Rm 0 0 0 0) s m #[(.int p1), (.int p2)] below meth c s₁ [] 0 0 := Stand.of_body Bd
 have e0 : s₁.heap = h0 := by rw [← hh, Bd.state]; rfl
 have N0 := Fr.nil n0
 have hn0 : n0 ≤ h0.size := O0.1 ▸ O0.2.1
 have pre0 : ∀ t, SS p e below s₁ m 0 #[vI p1, vI p2] [] t → Steps p.tables e below (s₁.setTop (entryFrame m #[(.int p1), (.int p2)] 2)) t := fun t k => castTop (ef_rmMmax m p1 p2) k
 have pre102 : ∀ t, SS p e below s₁ m 2 #[vI p1, vI p2] [(.int p2), (.int p1)] t → Steps p.tables e below (s₁.setTop (entryFrame m #[(.int p1), (.int p2)] 2)) t := by
  intro t kt
  refine pre0 _ ?_
  show SS p e below s₁ m 0 #[vI p1, vI p2] [] _
  refine XS.iloadN X0.here hx rfl (hb hby d28_0) rfl ?_
  refine XS.iloadN X0.here hx rfl (hb hby d28_1) rfl ?_
  exact kt
 by_cases hc101 : p1 < p2
 ·skip
  obtain ⟨fs, hr, hrun, hended, hW, hsame⟩ := X0.leave (v := some (.int p2)) (fun h => by rw [Bd.returns] at h; cases h)
  refine ⟨_, _, pre102 _ ?_, hrun, hended, _, _, rfl, ?_, ⟨_, rfl⟩, hW, hsame.mono (by decide) (by decide)⟩
  ·skip
   show SS p e below s₁ m 2 #[vI p1, vI p2] [(.int p2), (.int p1)] _
   refine XS.icmpYes X0.here hx rfl (pc0 := 2) (pc' := 9) rfl (hb hby d28_2) rfl (tlt hc101).1 (by decide) (by decide) ?_
   refine XS.iloadN X0.here hx rfl (hb hby d28_9) rfl ?_
   show SS p e below s₁ m 10 #[vI p1, vI p2] [(.int p2)] _
   exact retI X0 hx Bd.returns (hb hby d28_10) hr
  ·show Q_rmMmax Z p1 p2 h0 n0 _ s₁.heap _
   rw [e0]
   exact ⟨by rw [jmax, if_pos hc101], N0, rfl⟩
 ·skip
  obtain ⟨fs, hr, hrun, hended, hW, hsame⟩ := X0.leave (v := some (.int p1)) (fun h => by rw [Bd.returns] at h; cases h)
  refine ⟨_, _, pre102 _ ?_, hrun, hended, _, _, rfl, ?_, ⟨_, rfl⟩, hW, hsame.mono (by decide) (by decide)⟩
  ·skip
   show SS p e below s₁ m 2 #[vI p1, vI p2] [(.int p2), (.int p1)] _
   refine XS.icmpNo X0.here hx rfl (hb hby d28_2) rfl (flt hc101).1 ?_
   refine XS.iloadN X0.here hx rfl (hb hby d28_5) rfl ?_
   refine XS.goto X0.here hx rfl (pc0 := 6) (pc' := 10) rfl (hb hby d28_6) (by decide) (by decide) ?_
   show SS p e below s₁ m 10 #[vI p1, vI p2] [(.int p1)] _
   exact retI X0 hx Bd.returns (hb hby d28_10) hr
  ·show Q_rmMmax Z p1 p2 h0 n0 _ s₁.heap _
   rw [e0]
   exact ⟨by rw [jmax, if_neg hc101], N0, rfl⟩
theorem d29_0 : decode cD16 0 = .ok (.iload_n 0, 1) := by decide +kernel
theorem d29_1 : decode cD16 1 = .ok (.iload_n 1, 1) := by decide +kernel
theorem d29_2 : decode cD16 2 = .ok (.if_icmp .gt 7, 3) := by decide +kernel
theorem d29_5 : decode cD16 5 = .ok (.iload_n 0, 1) := by decide +kernel
theorem d29_6 : decode cD16 6 = .ok (.goto 4, 3) := by decide +kernel
theorem d29_9 : decode cD16 9 = .ok (.iload_n 1, 1) := by decide +kernel
theorem d29_10 : decode cD16 10 = .ok (.ireturn, 1) := by decide +kernel
theorem ef_rmMmin (m : MethodId) (y0 : Int32) (y1 : Int32) : entryFrame m #[(.int y0), (.int y1)] 2 = (mkF m 0 #[vI y0, vI y1] []) := by first | (simp [entryFrame, mkF, argsToLocals, Value.category]; done) | rfl
def Q_rmMmin (Z : State) (p1 : Int32) (p2 : Int32) (h0 : Heap) (n0 : Nat) (v : Option Value) (h : Heap) (L : List Loc) : Prop := v = some (.int (jmin p1 p2)) ∧ Fr n0 L ∧ h = h0
set_option maxRecDepth 65536 in
set_option maxHeartbeats 40000000 in
theorem rmMmin (l : Launch) (Z : State) (a0 : Array Value) (hw : ∀ d ∈ tables_1, d.before a0 Z = true) (ws : List Jvm.Cond) (p1 : Int32) (p2 : Int32) (h0 : Heap) (n0 : Nat) (O0 : Old Z n0 h0) :
  MetFree l mN16 (head1 (Jvm.Cond.code mN16 jdk_29_method_69_code 2 (some .int) :: ws) (Rm 0 0 0 0)) (fun a U => a = #[(.int p1), (.int p2)] ∧ Z.Warmed39 U.vm ∧ U.heap = h0) (fun _ _ _ _ _ => True) (fun _ U o U' => ∃ v L, o = .returned v ∧ Q_rmMmin Z p1 p2 h0 n0 v U'.heap L ∧ FrameEnd U o U' L (Rm 0 0 0 0).cells (Rm 0 0 0 0).slots) := by
 refine MetFree.of_bodySF (Jvm.Free.JP.mathPlain rfl (by decide +kernel)) hisR ?_
 intro p e s m args below meth c s₁ Bd hml0 hP hK
 obtain ⟨rfl, hZ, hh⟩ := hP
 have hx := Bd.exec
 have hby := Bd.bytes
 have hml : c.maxLocals = 2 := hml0
 have hown : s.vm.findClass "java/lang/Math" = some m.cls := findClass_of_methodNamed Bd.named
 have hnm := (name_of_methodNamed Bd.named Bd.method).1
 have X0 : Stand p l e (Rm 0 0 0 0) s m #[(.int p1), (.int p2)] below meth c s₁ [] 0 0 := Stand.of_body Bd
 have e0 : s₁.heap = h0 := by rw [← hh, Bd.state]; rfl
 have N0 := Fr.nil n0
 have hn0 : n0 ≤ h0.size := O0.1 ▸ O0.2.1
 have pre0 : ∀ t, SS p e below s₁ m 0 #[vI p1, vI p2] [] t → Steps p.tables e below (s₁.setTop (entryFrame m #[(.int p1), (.int p2)] 2)) t := fun t k => castTop (ef_rmMmin m p1 p2) k
 have pre102 : ∀ t, SS p e below s₁ m 2 #[vI p1, vI p2] [(.int p2), (.int p1)] t → Steps p.tables e below (s₁.setTop (entryFrame m #[(.int p1), (.int p2)] 2)) t := by
  intro t kt
  refine pre0 _ ?_
  show SS p e below s₁ m 0 #[vI p1, vI p2] [] _
  refine XS.iloadN X0.here hx rfl (hb hby d29_0) rfl ?_
  refine XS.iloadN X0.here hx rfl (hb hby d29_1) rfl ?_
  exact kt
 by_cases hc101 : p2 < p1
 ·skip
  obtain ⟨fs, hr, hrun, hended, hW, hsame⟩ := X0.leave (v := some (.int p2)) (fun h => by rw [Bd.returns] at h; cases h)
  refine ⟨_, _, pre102 _ ?_, hrun, hended, _, _, rfl, ?_, ⟨_, rfl⟩, hW, hsame.mono (by decide) (by decide)⟩
  ·skip
   show SS p e below s₁ m 2 #[vI p1, vI p2] [(.int p2), (.int p1)] _
   refine XS.icmpYes X0.here hx rfl (pc0 := 2) (pc' := 9) rfl (hb hby d29_2) rfl (tlt hc101).2.2.1 (by decide) (by decide) ?_
   refine XS.iloadN X0.here hx rfl (hb hby d29_9) rfl ?_
   show SS p e below s₁ m 10 #[vI p1, vI p2] [(.int p2)] _
   exact retI X0 hx Bd.returns (hb hby d29_10) hr
  ·show Q_rmMmin Z p1 p2 h0 n0 _ s₁.heap _
   rw [e0]
   exact ⟨by rw [jmin, if_pos hc101], N0, rfl⟩
 ·skip
  obtain ⟨fs, hr, hrun, hended, hW, hsame⟩ := X0.leave (v := some (.int p1)) (fun h => by rw [Bd.returns] at h; cases h)
  refine ⟨_, _, pre102 _ ?_, hrun, hended, _, _, rfl, ?_, ⟨_, rfl⟩, hW, hsame.mono (by decide) (by decide)⟩
  ·skip
   show SS p e below s₁ m 2 #[vI p1, vI p2] [(.int p2), (.int p1)] _
   refine XS.icmpNo X0.here hx rfl (hb hby d29_2) rfl (flt hc101).2.2.1 ?_
   refine XS.iloadN X0.here hx rfl (hb hby d29_5) rfl ?_
   refine XS.goto X0.here hx rfl (pc0 := 6) (pc' := 10) rfl (hb hby d29_6) (by decide) (by decide) ?_
   show SS p e below s₁ m 10 #[vI p1, vI p2] [(.int p1)] _
   exact retI X0 hx Bd.returns (hb hby d29_10) hr
  ·show Q_rmMmin Z p1 p2 h0 n0 _ s₁.heap _
   rw [e0]
   exact ⟨by rw [jmin, if_neg hc101], N0, rfl⟩
theorem d20_0 : decode cD17 0 = .ok (.iload_n 0, 1) := by decide +kernel
theorem d20_1 : decode cD17 1 = .ok (.ifCond .lt 13, 3) := by decide +kernel
theorem d20_4 : decode cD17 4 = .ok (.iload_n 0, 1) := by decide +kernel
theorem d20_5 : decode cD17 5 = .ok (.iload_n 1, 1) := by decide +kernel
theorem d20_6 : decode cD17 6 = .ok (.if_icmp .gt 8, 3) := by decide +kernel
theorem d20_9 : decode cD17 9 = .ok (.iload_n 1, 1) := by decide +kernel
theorem d20_10 : decode cD17 10 = .ok (.iload_n 2, 1) := by decide +kernel
theorem d20_11 : decode cD17 11 = .ok (.if_icmp .le 11, 3) := by decide +kernel
theorem d20_22 : decode cD17 22 = .ok (.iload_n 0, 1) := by decide +kernel
theorem d20_23 : decode cD17 23 = .ok (.ireturn, 1) := by decide +kernel
theorem pn_20 : plainName "jdk/internal/util/Preconditions" = true := by first | (simp [plainName, overriddenIn]; done) | decide +kernel
theorem ef_rmCftN (m : MethodId) (y0 : Int32) (y1 : Int32) (y2 : Int32) : entryFrame m #[(.int y0), (.int y1), (.int y2), .null] 4 = (mkF m 0 #[vI y0, vI y1, vI y2, .val .null] []) := by first | (simp [entryFrame, mkF, argsToLocals, Value.category]; done) | rfl
def Q_rmCftN (Z : State) (p1 : Int32) (p2 : Int32) (p3 : Int32) (h0 : Heap) (n0 : Nat) (v : Option Value) (h : Heap) (L : List Loc) : Prop := v = some (.int p1) ∧ Fr n0 L ∧ h = h0
set_option maxRecDepth 65536 in
set_option maxHeartbeats 40000000 in
theorem rmCftN (l : Launch) (Z : State) (a0 : Array Value) (hw : ∀ d ∈ tables_1, d.before a0 Z = true) (ws : List Jvm.Cond) (p1 : Int32) (p2 : Int32) (p3 : Int32) (h0 : Heap) (n0 : Nat) (O0 : Old Z n0 h0) (c1 : ¬ (p1 < (0 : Int32))) (c2 : ¬ (p2 < p1)) (c3 : ¬ (p3 < p2)) :
  MetFree l mN17 (head1 (Jvm.Cond.code mN17 jdk_41_method_12_code 4 (some .int) :: ws) (Rm 0 0 0 0)) (fun a U => a = #[(.int p1), (.int p2), (.int p3), .null] ∧ Z.Warmed39 U.vm ∧ U.heap = h0) (fun _ _ _ _ _ => True) (fun _ U o U' => ∃ v L, o = .returned v ∧ Q_rmCftN Z p1 p2 p3 h0 n0 v U'.heap L ∧ FrameEnd U o U' L (Rm 0 0 0 0).cells (Rm 0 0 0 0).slots) := by
 refine MetFree.of_bodySF (plainFor_of_name pn_20) hisR ?_
 intro p e s m args below meth c s₁ Bd hml0 hP hK
 obtain ⟨rfl, hZ, hh⟩ := hP
 have hx := Bd.exec
 have hby := Bd.bytes
 have hml : c.maxLocals = 4 := hml0
 have hown : s.vm.findClass "jdk/internal/util/Preconditions" = some m.cls := findClass_of_methodNamed Bd.named
 have hnm := (name_of_methodNamed Bd.named Bd.method).1
 have X0 : Stand p l e (Rm 0 0 0 0) s m #[(.int p1), (.int p2), (.int p3), .null] below meth c s₁ [] 0 0 := Stand.of_body Bd
 have e0 : s₁.heap = h0 := by rw [← hh, Bd.state]; rfl
 have N0 := Fr.nil n0
 have hn0 : n0 ≤ h0.size := O0.1 ▸ O0.2.1
 have pre0 : ∀ t, SS p e below s₁ m 0 #[vI p1, vI p2, vI p3, .val .null] [] t → Steps p.tables e below (s₁.setTop (entryFrame m #[(.int p1), (.int p2), (.int p3), .null] 4)) t := fun t k => castTop (ef_rmCftN m p1 p2 p3) k
 obtain ⟨fs, hr, hrun, hended, hW, hsame⟩ := X0.leave (v := some (.int p1)) (fun h => by rw [Bd.returns] at h; cases h)
 refine ⟨_, _, pre0 _ ?_, hrun, hended, _, _, rfl, ?_, ⟨_, rfl⟩, hW, hsame.mono (by decide) (by decide)⟩
 ·skip
  show SS p e below s₁ m 0 #[vI p1, vI p2, vI p3, .val .null] [] _
  refine XS.iloadN X0.here hx rfl (hb hby d20_0) rfl ?_
  refine XS.ifNo X0.here hx rfl (hb hby d20_1) rfl ((if0 _ _).trans (flt (c1 : ¬ (p1 < (0 : Int32)))).1) ?_
  refine XS.iloadN X0.here hx rfl (hb hby d20_4) rfl ?_
  refine XS.iloadN X0.here hx rfl (hb hby d20_5) rfl ?_
  refine XS.icmpNo X0.here hx rfl (hb hby d20_6) rfl (flt (c2 : ¬ (p2 < p1))).2.2.1 ?_
  refine XS.iloadN X0.here hx rfl (hb hby d20_9) rfl ?_
  refine XS.iloadN X0.here hx rfl (hb hby d20_10) rfl ?_
  refine XS.icmpYes X0.here hx rfl (pc0 := 11) (pc' := 22) rfl (hb hby d20_11) rfl (flt (c3 : ¬ (p3 < p2))).2.2.2 (by decide) (by decide) ?_
  refine XS.iloadN X0.here hx rfl (hb hby d20_22) rfl ?_
  show SS p e below s₁ m 23 #[vI p1, vI p2, vI p3, .val .null] [(.int p1)] _
  exact retI X0 hx Bd.returns (hb hby d20_23) hr
 ·show Q_rmCftN Z p1 p2 p3 h0 n0 _ s₁.heap _
  rw [e0]
  exact ⟨rfl, N0, rfl⟩
theorem d19_0 : decode cD18 0 = .ok (.iload_n 0, 1) := by decide +kernel
theorem d19_1 : decode cD18 1 = .ok (.iload_n 1, 1) := by decide +kernel
theorem d19_2 : decode cD18 2 = .ok (.iload_n 2, 1) := by decide +kernel
theorem d19_3 : decode cD18 3 = .ok (.aconst_null, 1) := by decide +kernel
theorem d19_4 : decode cD18 4 = .ok (.invokestatic 111, 3) := by decide +kernel
theorem d19_7 : decode cD18 7 = .ok (.ireturn, 1) := by decide +kernel
theorem pn_19 : plainName "java/util/Objects" = true := by first | (simp [plainName, overriddenIn]; done) | decide +kernel
theorem pd_18 : parseMethodDescriptor "(IIILjava/util/function/BiFunction;)I" = some ⟨[.int, .int, .int, (.object "java/util/function/BiFunction")], some .int⟩ := by decide +kernel
theorem ef_rmOcft (m : MethodId) (y0 : Int32) (y1 : Int32) (y2 : Int32) : entryFrame m #[(.int y0), (.int y1), (.int y2)] 3 = (mkF m 0 #[vI y0, vI y1, vI y2] []) := by first | (simp [entryFrame, mkF, argsToLocals, Value.category]; done) | rfl
def Q_rmOcft (Z : State) (p1 : Int32) (p2 : Int32) (p3 : Int32) (h0 : Heap) (n0 : Nat) (v : Option Value) (h : Heap) (L : List Loc) : Prop := v = some (.int p1) ∧ Fr n0 L ∧ h = h0
set_option maxRecDepth 65536 in
set_option maxHeartbeats 40000000 in
theorem rmOcft (l : Launch) (Z : State) (a0 : Array Value) (hw : ∀ d ∈ tables_1, d.before a0 Z = true) (ws : List Jvm.Cond) (p1 : Int32) (p2 : Int32) (p3 : Int32) (h0 : Heap) (n0 : Nat) (O0 : Old Z n0 h0) (c1 : ¬ (p1 < (0 : Int32))) (c2 : ¬ (p2 < p1)) (c3 : ¬ (p3 < p2)) :
  MetFree l mN18 (head1 (Jvm.Cond.code mN18 jdk_31_method_18_code 3 (some .int) :: ws) (Rm 1 0 0 20)) (fun a U => a = #[(.int p1), (.int p2), (.int p3)] ∧ Z.Warmed39 U.vm ∧ U.heap = h0) (fun _ _ _ _ _ => True) (fun _ U o U' => ∃ v L, o = .returned v ∧ Q_rmOcft Z p1 p2 p3 h0 n0 v U'.heap L ∧ FrameEnd U o U' L (Rm 1 0 0 20).cells (Rm 1 0 0 20).slots) := by
 refine MetFree.of_bodySF (plainFor_of_name pn_19) hisR ?_
 intro p e s m args below meth c s₁ Bd hml0 hP hK
 obtain ⟨rfl, hZ, hh⟩ := hP
 have hx := Bd.exec
 have hby := Bd.bytes
 have hml : c.maxLocals = 3 := hml0
 have hown : s.vm.findClass "java/util/Objects" = some m.cls := findClass_of_methodNamed Bd.named
 have hnm := (name_of_methodNamed Bd.named Bd.method).1
 have X0 : Stand p l e (Rm 1 0 0 20) s m #[(.int p1), (.int p2), (.int p3)] below meth c s₁ [] 0 0 := Stand.of_body Bd
 have e0 : s₁.heap = h0 := by rw [← hh, Bd.state]; rfl
 have N0 := Fr.nil n0
 have hn0 : n0 ≤ h0.size := O0.1 ▸ O0.2.1
 have pre0 : ∀ t, SS p e below s₁ m 0 #[vI p1, vI p2, vI p3] [] t → Steps p.tables e below (s₁.setTop (entryFrame m #[(.int p1), (.int p2), (.int p3)] 3)) t := fun t k => castTop (ef_rmOcft m p1 p2 p3) k
 obtain ⟨_, _, ⟨T101, L101, k101, n101⟩, -, X101, ⟨Lc101, hQ101, l101, y101, z101⟩, st101⟩ := Jvm.LawKit.callS X0 hx (y := mN17) hown (mvT hZ (tw hw 90 rfl)) (mvT hZ (tw hw 91 rfl)) (mvT hZ (tw hw 92 rfl)) (mvT hZ (tw hw 93 rfl)) (by decide) (backOf (W := 0) (rmCftN l Z a0 hw [] p1 p2 p3  h0 n0 O0 c1 c2 c3) hZ (tw hw 93 rfl) (tw hw 92 rfl) (by decide) (by decide)) (g := (mkF m 4 #[vI p1, vI p2, vI p3] [.null, (.int p3), (.int p2), (.int p1)])) rfl (by rw [hml]; rfl) (argsL := [(.int p1), (.int p2), (.int p3), .null]) (rest := []) (lenOf pd_18 rfl) rfl (by show 2 * 0 + _ ≤ _; exact Nat.le_of_eq rfl) (hb hby d19_4) (fun _ _ => ⟨rfl, e0, (by decide : 0 + 0 ≤ _), (by decide : 0 + 0 ≤ _)⟩)
 dsimp only [Pt.U, Pt.locs, Pt.cells, Pt.slots] at X101 l101 y101 z101 st101 hQ101
 subst l101 y101 z101
 obtain ⟨rfl, N101q, H101⟩ := hQ101
 have N101 := Fr.app N0 N101q
 obtain ⟨fs, hr, hrun, hended, hW, hsame⟩ := X101.leave (v := some (.int p1)) (fun h => by rw [Bd.returns] at h; cases h)
 refine ⟨_, _, pre0 _ ?_, hrun, hended, _, _, rfl, ?_, ⟨_, rfl⟩, hW, hsame.mono (by decide) (by decide)⟩
 ·skip
  show SS p e below s₁ m 0 #[vI p1, vI p2, vI p3] [] _
  refine XS.iloadN X0.here hx rfl (hb hby d19_0) rfl ?_
  refine XS.iloadN X0.here hx rfl (hb hby d19_1) rfl ?_
  refine XS.iloadN X0.here hx rfl (hb hby d19_2) rfl ?_
  refine XS.aconstNull X0.here hx rfl (hb hby d19_3) ?_
  show SS p e below s₁ m 4 #[vI p1, vI p2, vI p3] [.null, (.int p3), (.int p2), (.int p1)] _
  refine st101 _ ?_
  show SS p e below T101 m 7 #[vI p1, vI p2, vI p3] [(.int p1)] _
  exact retI X101 hx Bd.returns (hb hby d19_7) hr
 ·show Q_rmOcft Z p1 p2 p3 h0 n0 _ T101.heap _
  rw [H101]
  exact ⟨rfl, N101, rfl⟩
theorem ef_rmCftF (m : MethodId) (y0 : Int32) (y1 : Int32) (y2 : Int32) (y3 : Addr) : entryFrame m #[(.int y0), (.int y1), (.int y2), (.ref y3)] 4 = (mkF m 0 #[vI y0, vI y1, vI y2, vR y3] []) := by first | (simp [entryFrame, mkF, argsToLocals, Value.category]; done) | rfl
def Q_rmCftF (Z : State) (p1 : Int32) (p2 : Int32) (p3 : Int32) (a4 : Addr) (h0 : Heap) (n0 : Nat) (v : Option Value) (h : Heap) (L : List Loc) : Prop := v = some (.int p1) ∧ Fr n0 L ∧ h = h0
set_option maxRecDepth 65536 in
set_option maxHeartbeats 40000000 in
theorem rmCftF (l : Launch) (Z : State) (a0 : Array Value) (hw : ∀ d ∈ tables_1, d.before a0 Z = true) (ws : List Jvm.Cond) (p1 : Int32) (p2 : Int32) (p3 : Int32) (a4 : Addr) (h0 : Heap) (n0 : Nat) (O0 : Old Z n0 h0) (c1 : ¬ (p1 < (0 : Int32))) (c2 : ¬ (p2 < p1)) (c3 : ¬ (p3 < p2)) :
  MetFree l mN17 (head1 (Jvm.Cond.code mN17 jdk_41_method_12_code 4 (some .int) :: ws) (Rm 0 0 0 0)) (fun a U => a = #[(.int p1), (.int p2), (.int p3), (.ref a4)] ∧ Z.Warmed39 U.vm ∧ U.heap = h0) (fun _ _ _ _ _ => True) (fun _ U o U' => ∃ v L, o = .returned v ∧ Q_rmCftF Z p1 p2 p3 a4 h0 n0 v U'.heap L ∧ FrameEnd U o U' L (Rm 0 0 0 0).cells (Rm 0 0 0 0).slots) := by
 refine MetFree.of_bodySF (plainFor_of_name pn_20) hisR ?_
 intro p e s m args below meth c s₁ Bd hml0 hP hK
 obtain ⟨rfl, hZ, hh⟩ := hP
 have hx := Bd.exec
 have hby := Bd.bytes
 have hml : c.maxLocals = 4 := hml0
 have hown : s.vm.findClass "jdk/internal/util/Preconditions" = some m.cls := findClass_of_methodNamed Bd.named
 have hnm := (name_of_methodNamed Bd.named Bd.method).1
 have X0 : Stand p l e (Rm 0 0 0 0) s m #[(.int p1), (.int p2), (.int p3), (.ref a4)] below meth c s₁ [] 0 0 := Stand.of_body Bd
 have e0 : s₁.heap = h0 := by rw [← hh, Bd.state]; rfl
 have N0 := Fr.nil n0
 have hn0 : n0 ≤ h0.size := O0.1 ▸ O0.2.1
 have pre0 : ∀ t, SS p e below s₁ m 0 #[vI p1, vI p2, vI p3, vR a4] [] t → Steps p.tables e below (s₁.setTop (entryFrame m #[(.int p1), (.int p2), (.int p3), (.ref a4)] 4)) t := fun t k => castTop (ef_rmCftF m p1 p2 p3 a4) k
 obtain ⟨fs, hr, hrun, hended, hW, hsame⟩ := X0.leave (v := some (.int p1)) (fun h => by rw [Bd.returns] at h; cases h)
 refine ⟨_, _, pre0 _ ?_, hrun, hended, _, _, rfl, ?_, ⟨_, rfl⟩, hW, hsame.mono (by decide) (by decide)⟩
 ·skip
  show SS p e below s₁ m 0 #[vI p1, vI p2, vI p3, vR a4] [] _
  refine XS.iloadN X0.here hx rfl (hb hby d20_0) rfl ?_
  refine XS.ifNo X0.here hx rfl (hb hby d20_1) rfl ((if0 _ _).trans (flt (c1 : ¬ (p1 < (0 : Int32)))).1) ?_
  refine XS.iloadN X0.here hx rfl (hb hby d20_4) rfl ?_
  refine XS.iloadN X0.here hx rfl (hb hby d20_5) rfl ?_
  refine XS.icmpNo X0.here hx rfl (hb hby d20_6) rfl (flt (c2 : ¬ (p2 < p1))).2.2.1 ?_
  refine XS.iloadN X0.here hx rfl (hb hby d20_9) rfl ?_
  refine XS.iloadN X0.here hx rfl (hb hby d20_10) rfl ?_
  refine XS.icmpYes X0.here hx rfl (pc0 := 11) (pc' := 22) rfl (hb hby d20_11) rfl (flt (c3 : ¬ (p3 < p2))).2.2.2 (by decide) (by decide) ?_
  refine XS.iloadN X0.here hx rfl (hb hby d20_22) rfl ?_
  show SS p e below s₁ m 23 #[vI p1, vI p2, vI p3, vR a4] [(.int p1)] _
  exact retI X0 hx Bd.returns (hb hby d20_23) hr
 ·show Q_rmCftF Z p1 p2 p3 a4 h0 n0 _ s₁.heap _
  rw [e0]
  exact ⟨rfl, N0, rfl⟩
theorem d33_0 : decode cD19 0 = .ok (.iload_n 0, 1) := by decide +kernel
theorem d33_1 : decode cD19 1 = .ok (.iload_n 1, 1) := by decide +kernel
theorem d33_2 : decode cD19 2 = .ok (.iload_n 2, 1) := by decide +kernel
theorem d33_3 : decode cD19 3 = .ok (.getstatic 1053, 3) := by decide +kernel
theorem d33_6 : decode cD19 6 = .ok (.invokestatic 1062, 3) := by decide +kernel
theorem d33_9 : decode cD19 9 = .ok (.pop, 1) := by decide +kernel
theorem d33_10 : decode cD19 10 = .ok (.return_, 1) := by decide +kernel
theorem pn_33 : plainName "java/lang/String" = true := by first | (simp [plainName, overriddenIn]; done) | decide +kernel
theorem ef_rmCbeN (m : MethodId) (y0 : Int32) (y1 : Int32) (y2 : Int32) : entryFrame m #[(.int y0), (.int y1), (.int y2)] 3 = (mkF m 0 #[vI y0, vI y1, vI y2] []) := by first | (simp [entryFrame, mkF, argsToLocals, Value.category]; done) | rfl
def Q_rmCbeN (Z : State) (p1 : Int32) (p2 : Int32) (p3 : Int32) (h0 : Heap) (n0 : Nat) (v : Option Value) (h : Heap) (L : List Loc) : Prop := v = none ∧ Fr n0 L ∧ h = h0
set_option maxRecDepth 65536 in
set_option maxHeartbeats 40000000 in
theorem rmCbeN (l : Launch) (Z : State) (a0 : Array Value) (hw : ∀ d ∈ tables_1, d.before a0 Z = true) (ws : List Jvm.Cond) (p1 : Int32) (p2 : Int32) (p3 : Int32) (h0 : Heap) (n0 : Nat) (O0 : Old Z n0 h0) (S_FM : Sta Z Z.heap "jdk/internal/util/Preconditions" "SIOOBE_FORMATTER" "Ljava/util/function/BiFunction;" .null) (c1 : ¬ (p1 < (0 : Int32))) (c2 : ¬ (p2 < p1)) (c3 : ¬ (p3 < p2)) :
  MetFree l mN19 (head1 (Jvm.Cond.code mN19 jdk_42_method_158_code 3 none :: ws) (Rm 1 0 0 20)) (fun a U => a = #[(.int p1), (.int p2), (.int p3)] ∧ Z.Warmed39 U.vm ∧ U.heap = h0) (fun _ _ _ _ _ => True) (fun _ U o U' => ∃ v L, o = .returned v ∧ Q_rmCbeN Z p1 p2 p3 h0 n0 v U'.heap L ∧ FrameEnd U o U' L (Rm 1 0 0 20).cells (Rm 1 0 0 20).slots) := by
 refine MetFree.of_bodySF (plainFor_of_name pn_33) hisR ?_
 intro p e s m args below meth c s₁ Bd hml0 hP hK
 obtain ⟨rfl, hZ, hh⟩ := hP
 have hx := Bd.exec
 have hby := Bd.bytes
 have hml : c.maxLocals = 3 := hml0
 have hown : s.vm.findClass "java/lang/String" = some m.cls := findClass_of_methodNamed Bd.named
 have hnm := (name_of_methodNamed Bd.named Bd.method).1
 have X0 : Stand p l e (Rm 1 0 0 20) s m #[(.int p1), (.int p2), (.int p3)] below meth c s₁ [] 0 0 := Stand.of_body Bd
 have e0 : s₁.heap = h0 := by rw [← hh, Bd.state]; rfl
 have N0 := Fr.nil n0
 have hn0 : n0 ≤ h0.size := O0.1 ▸ O0.2.1
 have pre0 : ∀ t, SS p e below s₁ m 0 #[vI p1, vI p2, vI p3] [] t → Steps p.tables e below (s₁.setTop (entryFrame m #[(.int p1), (.int p2), (.int p3)] 3)) t := fun t k => castTop (ef_rmCbeN m p1 p2 p3) k
 obtain ⟨T101, X101, e101, st101⟩ := getS2 X0 hx hZ hown (host := "") (Or.inl (tw hw 144 rfl)) Via.refl e0 (Sta.ext O0.2 S_FM) (g := (mkF m 3 #[vI p1, vI p2, vI p3] [(.int p3), (.int p2), (.int p1)])) rfl (hb hby d33_3)
 obtain ⟨_, _, ⟨T102, L102, k102, n102⟩, -, X102, ⟨Lc102, hQ102, l102, y102, z102⟩, st102⟩ := Jvm.LawKit.callS X101 hx (y := mN17) hown (mvT hZ (tw hw 145 rfl)) (mvT hZ (tw hw 91 rfl)) (mvT hZ (tw hw 92 rfl)) (mvT hZ (tw hw 93 rfl)) (by decide) (backOf (W := 0) (rmCftN l Z a0 hw [] p1 p2 p3  h0 n0 O0 c1 c2 c3) hZ (tw hw 93 rfl) (tw hw 92 rfl) (by decide) (by decide)) (g := (mkF m 6 #[vI p1, vI p2, vI p3] [.null, (.int p3), (.int p2), (.int p1)])) rfl (by rw [hml]; rfl) (argsL := [(.int p1), (.int p2), (.int p3), .null]) (rest := []) (lenOf pd_18 rfl) rfl (by show 2 * 0 + _ ≤ _; exact Nat.le_of_eq rfl) (hb hby d33_6) (fun _ _ => ⟨rfl, e101, (by decide : 0 + 0 ≤ _), (by decide : 0 + 0 ≤ _)⟩)
 dsimp only [Pt.U, Pt.locs, Pt.cells, Pt.slots] at X102 l102 y102 z102 st102 hQ102
 subst l102 y102 z102
 obtain ⟨rfl, N102q, H102⟩ := hQ102
 have N102 := Fr.app N0 N102q
 obtain ⟨fs, hr, hrun, hended, hW, hsame⟩ := X102.leave (v := none) (fun _ => rfl)
 refine ⟨_, _, pre0 _ ?_, hrun, hended, _, _, rfl, ?_, ⟨_, rfl⟩, hW, hsame.mono (by decide) (by decide)⟩
 ·skip
  show SS p e below s₁ m 0 #[vI p1, vI p2, vI p3] [] _
  refine XS.iloadN X0.here hx rfl (hb hby d33_0) rfl ?_
  refine XS.iloadN X0.here hx rfl (hb hby d33_1) rfl ?_
  refine XS.iloadN X0.here hx rfl (hb hby d33_2) rfl ?_
  show SS p e below s₁ m 3 #[vI p1, vI p2, vI p3] [(.int p3), (.int p2), (.int p1)] _
  refine st101 _ ?_
  show SS p e below T101 m 6 #[vI p1, vI p2, vI p3] [.null, (.int p3), (.int p2), (.int p1)] _
  refine st102 _ ?_
  refine XS.pop X102.here hx rfl (hb hby d33_9) rfl rfl ?_
  show SS p e below T102 m 10 #[vI p1, vI p2, vI p3] [] _
  exact X102.returnOut hx Bd.returns (hb hby d33_10) hr
 ·show Q_rmCbeN Z p1 p2 p3 h0 n0 _ T102.heap _
  rw [H102]
  exact ⟨rfl, N102, rfl⟩
theorem ef_rmCbeF (m : MethodId) (y0 : Int32) (y1 : Int32) (y2 : Int32) : entryFrame m #[(.int y0), (.int y1), (.int y2)] 3 = (mkF m 0 #[vI y0, vI y1, vI y2] []) := by first | (simp [entryFrame, mkF, argsToLocals, Value.category]; done) | rfl
def Q_rmCbeF (Z : State) (p1 : Int32) (p2 : Int32) (p3 : Int32) (fm : Addr) (h0 : Heap) (n0 : Nat) (v : Option Value) (h : Heap) (L : List Loc) : Prop := v = none ∧ Fr n0 L ∧ h = h0
set_option maxRecDepth 65536 in
set_option maxHeartbeats 40000000 in
theorem rmCbeF (l : Launch) (Z : State) (a0 : Array Value) (hw : ∀ d ∈ tables_1, d.before a0 Z = true) (ws : List Jvm.Cond) (p1 : Int32) (p2 : Int32) (p3 : Int32) (fm : Addr) (h0 : Heap) (n0 : Nat) (O0 : Old Z n0 h0) (S_FM : Sta Z Z.heap "jdk/internal/util/Preconditions" "SIOOBE_FORMATTER" "Ljava/util/function/BiFunction;" (.ref fm)) (c1 : ¬ (p1 < (0 : Int32))) (c2 : ¬ (p2 < p1)) (c3 : ¬ (p3 < p2)) :
  MetFree l mN19 (head1 (Jvm.Cond.code mN19 jdk_42_method_158_code 3 none :: ws) (Rm 1 0 0 20)) (fun a U => a = #[(.int p1), (.int p2), (.int p3)] ∧ Z.Warmed39 U.vm ∧ U.heap = h0) (fun _ _ _ _ _ => True) (fun _ U o U' => ∃ v L, o = .returned v ∧ Q_rmCbeF Z p1 p2 p3 fm h0 n0 v U'.heap L ∧ FrameEnd U o U' L (Rm 1 0 0 20).cells (Rm 1 0 0 20).slots) := by
 refine MetFree.of_bodySF (plainFor_of_name pn_33) hisR ?_
 intro p e s m args below meth c s₁ Bd hml0 hP hK
 obtain ⟨rfl, hZ, hh⟩ := hP
 have hx := Bd.exec
 have hby := Bd.bytes
 have hml : c.maxLocals = 3 := hml0
 have hown : s.vm.findClass "java/lang/String" = some m.cls := findClass_of_methodNamed Bd.named
 have hnm := (name_of_methodNamed Bd.named Bd.method).1
 have X0 : Stand p l e (Rm 1 0 0 20) s m #[(.int p1), (.int p2), (.int p3)] below meth c s₁ [] 0 0 := Stand.of_body Bd
 have e0 : s₁.heap = h0 := by rw [← hh, Bd.state]; rfl
 have N0 := Fr.nil n0
 have hn0 : n0 ≤ h0.size := O0.1 ▸ O0.2.1
 have pre0 : ∀ t, SS p e below s₁ m 0 #[vI p1, vI p2, vI p3] [] t → Steps p.tables e below (s₁.setTop (entryFrame m #[(.int p1), (.int p2), (.int p3)] 3)) t := fun t k => castTop (ef_rmCbeF m p1 p2 p3) k
 obtain ⟨T101, X101, e101, st101⟩ := getS2 X0 hx hZ hown (host := "") (Or.inl (tw hw 144 rfl)) Via.refl e0 (Sta.ext O0.2 S_FM) (g := (mkF m 3 #[vI p1, vI p2, vI p3] [(.int p3), (.int p2), (.int p1)])) rfl (hb hby d33_3)
 obtain ⟨_, _, ⟨T102, L102, k102, n102⟩, -, X102, ⟨Lc102, hQ102, l102, y102, z102⟩, st102⟩ := Jvm.LawKit.callS X101 hx (y := mN17) hown (mvT hZ (tw hw 145 rfl)) (mvT hZ (tw hw 91 rfl)) (mvT hZ (tw hw 92 rfl)) (mvT hZ (tw hw 93 rfl)) (by decide) (backOf (W := 0) (rmCftF l Z a0 hw [] p1 p2 p3 fm  h0 n0 O0 c1 c2 c3) hZ (tw hw 93 rfl) (tw hw 92 rfl) (by decide) (by decide)) (g := (mkF m 6 #[vI p1, vI p2, vI p3] [(.ref fm), (.int p3), (.int p2), (.int p1)])) rfl (by rw [hml]; rfl) (argsL := [(.int p1), (.int p2), (.int p3), (.ref fm)]) (rest := []) (lenOf pd_18 rfl) rfl (by show 2 * 0 + _ ≤ _; exact Nat.le_of_eq rfl) (hb hby d33_6) (fun _ _ => ⟨rfl, e101, (by decide : 0 + 0 ≤ _), (by decide : 0 + 0 ≤ _)⟩)
 dsimp only [Pt.U, Pt.locs, Pt.cells, Pt.slots] at X102 l102 y102 z102 st102 hQ102
 subst l102 y102 z102
 obtain ⟨rfl, N102q, H102⟩ := hQ102
 have N102 := Fr.app N0 N102q
 obtain ⟨fs, hr, hrun, hended, hW, hsame⟩ := X102.leave (v := none) (fun _ => rfl)
 refine ⟨_, _, pre0 _ ?_, hrun, hended, _, _, rfl, ?_, ⟨_, rfl⟩, hW, hsame.mono (by decide) (by decide)⟩
 ·skip
  show SS p e below s₁ m 0 #[vI p1, vI p2, vI p3] [] _
  refine XS.iloadN X0.here hx rfl (hb hby d33_0) rfl ?_
  refine XS.iloadN X0.here hx rfl (hb hby d33_1) rfl ?_
  refine XS.iloadN X0.here hx rfl (hb hby d33_2) rfl ?_
  show SS p e below s₁ m 3 #[vI p1, vI p2, vI p3] [(.int p3), (.int p2), (.int p1)] _
  refine st101 _ ?_
  show SS p e below T101 m 6 #[vI p1, vI p2, vI p3] [(.ref fm), (.int p3), (.int p2), (.int p1)] _
  refine st102 _ ?_
  refine XS.pop X102.here hx rfl (hb hby d33_9) rfl rfl ?_
  show SS p e below T102 m 10 #[vI p1, vI p2, vI p3] [] _
  exact X102.returnOut hx Bd.returns (hb hby d33_10) hr
 ·show Q_rmCbeF Z p1 p2 p3 fm h0 n0 _ T102.heap _
  rw [H102]
  exact ⟨rfl, N102, rfl⟩
def Q_rmCbe (Z : State) (p1 p2 p3 : Int32) (fm : Value) (h0 : Heap) (n0 : Nat) (v : Option Value) (h : Heap) (L : List Loc) : Prop := v = none ∧ Fr n0 L ∧ h = h0
theorem rmCbe (l : Launch) (Z : State) (a0 : Array Value) (hw : ∀ d ∈ tables_1, d.before a0 Z = true) (ws : List Jvm.Cond) (p1 p2 p3 : Int32) (fm : Value) (h0 : Heap) (n0 : Nat) (O0 : Old Z n0 h0) (S_FM : SFM Z fm) (r_FM : fm.isRef = true) (c1 : ¬ (p1 < (0 : Int32))) (c2 : ¬ (p2 < p1)) (c3 : ¬ (p3 < p2)) :
  MetFree l mN19 (head1 (Jvm.Cond.code mN19 jdk_42_method_158_code 3 none :: ws) (Rm 1 0 0 20)) (fun a U => a = #[(.int p1), (.int p2), (.int p3)] ∧ Z.Warmed39 U.vm ∧ U.heap = h0) (fun _ _ _ _ _ => True) (fun _ U o U' => ∃ v L, o = .returned v ∧ Q_rmCbe Z p1 p2 p3 fm h0 n0 v U'.heap L ∧ FrameEnd U o U' L (Rm 1 0 0 20).cells (Rm 1 0 0 20).slots) := by
 rcases ref_cases r_FM with rfl | ⟨a, rfl⟩
 ·exact rmCbeN l Z a0 hw ws p1 p2 p3 h0 n0 O0 S_FM c1 c2 c3
 ·exact rmCbeF l Z a0 hw ws p1 p2 p3 a h0 n0 O0 S_FM c1 c2 c3
theorem d32_0 : decode cD20 0 = .ok (.aload_n 0, 1) := by decide +kernel
theorem d32_1 : decode cD20 1 = .ok (.arraylength, 1) := by decide +kernel
theorem d32_2 : decode cD20 2 = .ok (.iconst 1, 1) := by decide +kernel
theorem d32_3 : decode cD20 3 = .ok (.ishr, 1) := by decide +kernel
theorem d32_4 : decode cD20 4 = .ok (.ireturn, 1) := by decide +kernel
theorem pn_32 : plainName "java/lang/StringUTF16" = true := by first | (simp [plainName, overriddenIn]; done) | decide +kernel
theorem ef_rmUlen (m : MethodId) (y0 : Addr) : entryFrame m #[(.ref y0)] 1 = (mkF m 0 #[vR y0] []) := by first | (simp [entryFrame, mkF, argsToLocals, Value.category]; done) | rfl
def Q_rmUlen (Z : State) (a1 : Addr) (cs : List Int32) (k1 : ClassId) (vs : List Value) (h0 : Heap) (n0 : Nat) (v : Option Value) (h : Heap) (L : List Loc) : Prop := v = some (.int (Int32.ofNat cs.length)) ∧ Fr n0 L ∧ h = h0
set_option maxRecDepth 65536 in
set_option maxHeartbeats 40000000 in
theorem rmUlen (l : Launch) (Z : State) (a0 : Array Value) (hw : ∀ d ∈ tables_1, d.before a0 Z = true) (ws : List Jvm.Cond) (a1 : Addr) (cs : List Int32) (k1 : ClassId) (vs : List Value) (h0 : Heap) (n0 : Nat) (O0 : Old Z n0 h0) (V1 : Arv Z h0 a1 k1 .byte (Int32.ofNat (2 * cs.length)) vs (.int 0)) (hn : cs.length ≤ 257) :
  MetFree l mN20 (head1 (Jvm.Cond.code mN20 jdk_52_method_6_code 1 (some .int) :: ws) (Rm 0 0 0 0)) (fun a U => a = #[(.ref a1)] ∧ Z.Warmed39 U.vm ∧ U.heap = h0) (fun _ _ _ _ _ => True) (fun _ U o U' => ∃ v L, o = .returned v ∧ Q_rmUlen Z a1 cs k1 vs h0 n0 v U'.heap L ∧ FrameEnd U o U' L (Rm 0 0 0 0).cells (Rm 0 0 0 0).slots) := by
 refine MetFree.of_bodySF (plainFor_of_name pn_32) hisR ?_
 intro p e s m args below meth c s₁ Bd hml0 hP hK
 obtain ⟨rfl, hZ, hh⟩ := hP
 have hx := Bd.exec
 have hby := Bd.bytes
 have hml : c.maxLocals = 1 := hml0
 have hown : s.vm.findClass "java/lang/StringUTF16" = some m.cls := findClass_of_methodNamed Bd.named
 have hnm := (name_of_methodNamed Bd.named Bd.method).1
 have X0 : Stand p l e (Rm 0 0 0 0) s m #[(.ref a1)] below meth c s₁ [] 0 0 := Stand.of_body Bd
 have e0 : s₁.heap = h0 := by rw [← hh, Bd.state]; rfl
 have N0 := Fr.nil n0
 have hn0 : n0 ≤ h0.size := O0.1 ▸ O0.2.1
 have pre0 : ∀ t, SS p e below s₁ m 0 #[vR a1] [] t → Steps p.tables e below (s₁.setTop (entryFrame m #[(.ref a1)] 1)) t := fun t k => castTop (ef_rmUlen m a1) k
 obtain ⟨cl101, Ar101, q101, S101, Nn101, H101, G101⟩ := id V1
 obtain ⟨fs, hr, hrun, hended, hW, hsame⟩ := X0.leave (v := some (.int ((Int32.ofNat (2 * cs.length)) >>> ((1 : Int32) &&& 31)))) (fun h => by rw [Bd.returns] at h; cases h)
 refine ⟨_, _, pre0 _ ?_, hrun, hended, _, _, rfl, ?_, ⟨_, rfl⟩, hW, hsame.mono (by decide) (by decide)⟩
 ·skip
  show SS p e below s₁ m 0 #[vR a1] [] _
  refine XS.aloadN X0.here hx rfl (hb hby d32_0) rfl rfl ?_
  show SS p e below s₁ m 1 #[vR a1] [(.ref a1)] _
  refine X0.arraylength hx (by rw [e0]; exact Ar101.1) (State.isArrayOf_alike hZ.alike Ar101.2.1) (g := (mkF m 1 #[vR a1] [(.ref a1)])) rfl rfl (hb hby d32_1) _ ?_
  rw [len_of S101 Nn101]
  refine XS.iconst X0.here hx rfl (hb hby d32_2) ?_
  show SS p e below s₁ m 3 #[vR a1] [(.int 1), (.int (Int32.ofNat (2 * cs.length)))] _
  refine XS.ishr X0.here hx rfl (hb hby d32_3) rfl ?_
  show SS p e below s₁ m 4 #[vR a1] [(.int ((Int32.ofNat (2 * cs.length)) >>> ((1 : Int32) &&& 31)))] _
  exact retI X0 hx Bd.returns (hb hby d32_4) hr
 ·show Q_rmUlen Z a1 cs k1 vs h0 n0 _ s₁.heap _
  rw [e0]
  exact ⟨congrArg (fun z => some (Value.int z)) (own_shr1 (by omega)), N0, rfl⟩
theorem d31_0 : decode cD21 0 = .ok (.iload_n 0, 1) := by decide +kernel
theorem d31_1 : decode cD21 1 = .ok (.iload_n 1, 1) := by decide +kernel
theorem d31_2 : decode cD21 2 = .ok (.aload_n 2, 1) := by decide +kernel
theorem d31_3 : decode cD21 3 = .ok (.invokestatic 48, 3) := by decide +kernel
theorem d31_6 : decode cD21 6 = .ok (.invokestatic 241, 3) := by decide +kernel
theorem d31_9 : decode cD21 9 = .ok (.return_, 1) := by decide +kernel
theorem pn_31 : plainName "java/lang/StringUTF16" = true := by first | (simp [plainName, overriddenIn]; done) | decide +kernel
theorem pd_24 : parseMethodDescriptor "([B)I" = some ⟨[(.array .byte)], some .int⟩ := by decide +kernel
theorem pd_25 : parseMethodDescriptor "(III)V" = some ⟨[.int, .int, .int], none⟩ := by decide +kernel
theorem ef_rmUcbe (m : MethodId) (y0 : Int32) (y1 : Int32) (y2 : Addr) : entryFrame m #[(.int y0), (.int y1), (.ref y2)] 3 = (mkF m 0 #[vI y0, vI y1, vR y2] []) := by first | (simp [entryFrame, mkF, argsToLocals, Value.category]; done) | rfl
def Q_rmUcbe (Z : State) (p1 : Int32) (p2 : Int32) (a3 : Addr) (cs : List Int32) (k1 : ClassId) (vs : List Value) (fm : Value) (h0 : Heap) (n0 : Nat) (v : Option Value) (h : Heap) (L : List Loc) : Prop := v = none ∧ Fr n0 L ∧ h = h0
set_option maxRecDepth 65536 in
set_option maxHeartbeats 40000000 in
theorem rmUcbe (l : Launch) (Z : State) (a0 : Array Value) (hw : ∀ d ∈ tables_1, d.before a0 Z = true) (ws : List Jvm.Cond) (p1 : Int32) (p2 : Int32) (a3 : Addr) (cs : List Int32) (k1 : ClassId) (vs : List Value) (fm : Value) (h0 : Heap) (n0 : Nat) (O0 : Old Z n0 h0) (S_FM : SFM Z fm) (r_FM : fm.isRef = true) (V1 : Arv Z h0 a3 k1 .byte (Int32.ofNat (2 * cs.length)) vs (.int 0)) (hn : cs.length ≤ 257) (c1 : ¬ (p1 < (0 : Int32))) (c2 : ¬ (p2 < p1)) (c3 : ¬ ((Int32.ofNat cs.length) < p2)) :
  MetFree l mN21 (head1 (Jvm.Cond.code mN21 jdk_52_method_93_code 3 none :: ws) (Rm 2 0 0 40)) (fun a U => a = #[(.int p1), (.int p2), (.ref a3)] ∧ Z.Warmed39 U.vm ∧ U.heap = h0) (fun _ _ _ _ _ => True) (fun _ U o U' => ∃ v L, o = .returned v ∧ Q_rmUcbe Z p1 p2 a3 cs k1 vs fm h0 n0 v U'.heap L ∧ FrameEnd U o U' L (Rm 2 0 0 40).cells (Rm 2 0 0 40).slots) := by
 refine MetFree.of_bodySF (plainFor_of_name pn_31) hisR ?_
 intro p e s m args below meth c s₁ Bd hml0 hP hK
 obtain ⟨rfl, hZ, hh⟩ := hP
 have hx := Bd.exec
 have hby := Bd.bytes
 have hml : c.maxLocals = 3 := hml0
 have hown : s.vm.findClass "java/lang/StringUTF16" = some m.cls := findClass_of_methodNamed Bd.named
 have hnm := (name_of_methodNamed Bd.named Bd.method).1
 have X0 : Stand p l e (Rm 2 0 0 40) s m #[(.int p1), (.int p2), (.ref a3)] below meth c s₁ [] 0 0 := Stand.of_body Bd
 have e0 : s₁.heap = h0 := by rw [← hh, Bd.state]; rfl
 have N0 := Fr.nil n0
 have hn0 : n0 ≤ h0.size := O0.1 ▸ O0.2.1
 have pre0 : ∀ t, SS p e below s₁ m 0 #[vI p1, vI p2, vR a3] [] t → Steps p.tables e below (s₁.setTop (entryFrame m #[(.int p1), (.int p2), (.ref a3)] 3)) t := fun t k => castTop (ef_rmUcbe m p1 p2 a3) k
 obtain ⟨_, _, ⟨T101, L101, k101, n101⟩, -, X101, ⟨Lc101, hQ101, l101, y101, z101⟩, st101⟩ := Jvm.LawKit.callS X0 hx (y := mN20) hown (mvT hZ (tw hw 138 rfl)) (mvT hZ (tw hw 139 rfl)) (mvT hZ (tw hw 43 rfl)) (mvT hZ (tw hw 140 rfl)) (by decide) (backOf (W := 2) (rmUlen l Z a0 hw [] a3 cs k1 vs h0 n0 O0 V1 hn) hZ (tw hw 140 rfl) (tw hw 43 rfl) (by decide) (by decide)) (g := (mkF m 3 #[vI p1, vI p2, vR a3] [(.ref a3), (.int p2), (.int p1)])) rfl (by rw [hml]; rfl) (argsL := [(.ref a3)]) (rest := [(.int p2), (.int p1)]) (lenOf pd_24 rfl) rfl (by show 2 * 0 + _ ≤ _; exact Nat.le_of_eq rfl) (hb hby d31_3) (fun _ _ => ⟨rfl, e0, (by decide : 0 + 0 ≤ _), (by decide : 0 + 0 ≤ _)⟩)
 dsimp only [Pt.U, Pt.locs, Pt.cells, Pt.slots] at X101 l101 y101 z101 st101 hQ101
 subst l101 y101 z101
 obtain ⟨rfl, N101q, H101⟩ := hQ101
 have N101 := Fr.app N0 N101q
 obtain ⟨_, _, ⟨T102, L102, k102, n102⟩, -, X102, ⟨Lc102, hQ102, l102, y102, z102⟩, st102⟩ := Jvm.LawKit.callS X101 hx (y := mN19) hown (mvT hZ (tw hw 141 rfl)) (mvT hZ (tw hw 142 rfl)) (mvT hZ (tw hw 11 rfl)) (mvT hZ (tw hw 143 rfl)) (by decide) (backOf (W := 0) (rmCbe l Z a0 hw [] p1 p2 (Int32.ofNat cs.length) fm h0 n0 O0 S_FM r_FM c1 c2 c3) hZ (tw hw 143 rfl) (tw hw 11 rfl) (by decide) (by decide)) (g := (mkF m 6 #[vI p1, vI p2, vR a3] [(.int (Int32.ofNat cs.length)), (.int p2), (.int p1)])) rfl (by rw [hml]; rfl) (argsL := [(.int p1), (.int p2), (.int (Int32.ofNat cs.length))]) (rest := []) (lenOf pd_25 rfl) rfl (by show 2 * 0 + _ ≤ _; exact Nat.le_of_eq rfl) (hb hby d31_6) (fun _ _ => ⟨rfl, H101, (by decide : 0 + 0 ≤ _), (by decide : 0 + 0 ≤ _)⟩)
 dsimp only [Pt.U, Pt.locs, Pt.cells, Pt.slots] at X102 l102 y102 z102 st102 hQ102
 subst l102 y102 z102
 obtain ⟨rfl, N102q, H102⟩ := hQ102
 have N102 := Fr.app N101 N102q
 obtain ⟨fs, hr, hrun, hended, hW, hsame⟩ := X102.leave (v := none) (fun _ => rfl)
 refine ⟨_, _, pre0 _ ?_, hrun, hended, _, _, rfl, ?_, ⟨_, rfl⟩, hW, hsame.mono (by decide) (by decide)⟩
 ·skip
  show SS p e below s₁ m 0 #[vI p1, vI p2, vR a3] [] _
  refine XS.iloadN X0.here hx rfl (hb hby d31_0) rfl ?_
  refine XS.iloadN X0.here hx rfl (hb hby d31_1) rfl ?_
  refine XS.aloadN X0.here hx rfl (hb hby d31_2) rfl rfl ?_
  show SS p e below s₁ m 3 #[vI p1, vI p2, vR a3] [(.ref a3), (.int p2), (.int p1)] _
  refine st101 _ ?_
  show SS p e below T101 m 6 #[vI p1, vI p2, vR a3] [(.int (Int32.ofNat cs.length)), (.int p2), (.int p1)] _
  refine st102 _ ?_
  show SS p e below T102 m 9 #[vI p1, vI p2, vR a3] [] _
  exact X102.returnOut hx Bd.returns (hb hby d31_9) hr
 ·show Q_rmUcbe Z p1 p2 a3 cs k1 vs fm h0 n0 _ T102.heap _
  rw [H102]
  exact ⟨rfl, N102, rfl⟩
theorem d40_7 : decode cD22 7 = .ok (.iload 5, 2) := by decide +kernel
theorem d40_9 : decode cD22 9 = .ok (.iload_n 3, 1) := by decide +kernel
theorem d40_10 : decode cD22 10 = .ok (.if_icmp .ge 21, 3) := by decide +kernel
theorem d40_13 : decode cD22 13 = .ok (.aload_n 0, 1) := by decide +kernel
theorem d40_14 : decode cD22 14 = .ok (.iload 5, 2) := by decide +kernel
theorem d40_16 : decode cD22 16 = .ok (.baload, 1) := by decide +kernel
theorem d40_17 : decode cD22 17 = .ok (.iload 4, 2) := by decide +kernel
theorem d40_19 : decode cD22 19 = .ok (.if_icmp .ne 6, 3) := by decide +kernel
theorem d40_25 : decode cD22 25 = .ok (.iinc 5 1, 3) := by decide +kernel
theorem d40_28 : decode cD22 28 = .ok (.goto (-21), 3) := by decide +kernel
set_option maxRecDepth 65536 in
set_option maxHeartbeats 40000000 in
theorem tnIxL {p : Program} {l : Launch} {e : Env} {s : State} {m : MethodId} {args : Array Value} {below : List Frame} {meth : Method} {c : Code} {T0 : State} {locs : List Loc} {Z : State} {a0 : Array Value} {h0 : Heap} {n0 : Nat} (a1 : Addr) (bs : List Int32) (k1 : ClassId) (j : Nat)
  (X0 : Stand p l e (Rm 0 0 0 0) s m args below meth c T0 locs 0 0) (hx : p.tables.exec = Jvm.exec) (hZ : Z.Warmed39 s.vm) (hw : ∀ d ∈ tables_1, d.before a0 Z = true) (hby : c.code = jdk_43_method_23_code) (hml : c.maxLocals = 6) (hown : s.vm.findClass "java/lang/StringLatin1" = some m.cls) (e0 : T0.heap = h0) (O0 : Old Z n0 h0) (N0 : Fr n0 locs) (V1 : Arv Z h0 a1 k1 .byte (Int32.ofNat bs.length) (bs.map Value.int) (.int 0)) (hn : bs.length ≤ 257) (hj : j < bs.length) (hb0 : ¬ ((bs.getD j 0) = (0 : Int32))) :
  ∃ (T' : State) (h' : Heap) (L' : List Loc), Stand p l e (Rm 0 0 0 0) s m args below meth c T' L' 0 0 ∧ T'.heap = h' ∧ Fr n0 L' ∧ h' = h0 ∧ ∀ target, SS p e below T' m 7 #[vR a1, vI 0, vI 0, vI (Int32.ofNat bs.length), vI 0, vI (Int32.ofNat (j + 1))] [] target → SS p e below T0 m 7 #[vR a1, vI 0, vI 0, vI (Int32.ofNat bs.length), vI 0, vI (Int32.ofNat j)] [] target := by
 have hn0 : n0 ≤ h0.size := O0.1 ▸ O0.2.1
 have pre0 : ∀ t, SS p e below T0 m 7 #[vR a1, vI 0, vI 0, vI (Int32.ofNat bs.length), vI 0, vI (Int32.ofNat j)] [] t → SS p e below T0 m 7 #[vR a1, vI 0, vI 0, vI (Int32.ofNat bs.length), vI 0, vI (Int32.ofNat j)] [] t := fun t k => k
 have hj31 : j < 2 ^ 31 := by omega
 have hn31 : bs.length < 2 ^ 31 := by omega
 obtain ⟨cl101, Ar101, q101, S101, Nn101, H101, G101⟩ := id V1
 have hat101 : cl101.slots[((Int32.ofNat j)).toNatClampNeg]? = some (.int (bs.getD j 0)) := (Has.at H101 (inb_of S101 ⟨own_nn hj31, (own_lt hj31 hn31).mpr hj⟩) (own_getD _ hj hj31))
 refine ⟨T0, h0, _, X0, e0, N0, rfl, fun target kt => pre0 _ ?_⟩
 show SS p e below T0 m 7 #[vR a1, vI 0, vI 0, vI (Int32.ofNat bs.length), vI 0, vI (Int32.ofNat j)] [] _
 refine XS.iload X0.here hx rfl (hb hby d40_7) rfl ?_
 refine XS.iloadN X0.here hx rfl (hb hby d40_9) rfl ?_
 refine XS.icmpNo X0.here hx rfl (hb hby d40_10) rfl (tlt ((own_lt hj31 hn31).mpr hj : (Int32.ofNat j) < (Int32.ofNat bs.length))).2.1 ?_
 refine XS.aloadN X0.here hx rfl (hb hby d40_13) rfl rfl ?_
 refine XS.iload X0.here hx rfl (hb hby d40_14) rfl ?_
 show SS p e below T0 m 16 #[vR a1, vI 0, vI 0, vI (Int32.ofNat bs.length), vI 0, vI (Int32.ofNat j)] [(.int (Int32.ofNat j)), (.ref a1)] _
 refine X0.baloadBytes hx (j := (Int32.ofNat j)) (v := (.int (bs.getD j 0))) (by rw [e0]; exact Ar101.1) (State.isArrayOf_alike hZ.alike Ar101.2.1) Ar101.2.2 (inb_of S101 ⟨own_nn hj31, (own_lt hj31 hn31).mpr hj⟩) hat101 (g := (mkF m 16 #[vR a1, vI 0, vI 0, vI (Int32.ofNat bs.length), vI 0, vI (Int32.ofNat j)] [(.int (Int32.ofNat j)), (.ref a1)])) rfl rfl (hb hby d40_16) _ ?_
 refine XS.iload X0.here hx rfl (hb hby d40_17) rfl ?_
 refine XS.icmpYes X0.here hx rfl (pc0 := 19) (pc' := 25) rfl (hb hby d40_19) rfl (feq (hb0 : ¬ ((bs.getD j 0) = (0 : Int32)))).2 (by decide) (by decide) ?_
 refine XS.iinc X0.here hx rfl (hb hby d40_25) rfl (l' := #[vR a1, vI 0, vI 0, vI (Int32.ofNat bs.length), vI 0, vI ((Int32.ofNat j) + (1 : Int32))]) rfl ?_
 refine XS.goto X0.here hx rfl (pc0 := 28) (pc' := 7) rfl (hb hby d40_28) (by decide) (by decide) ?_
 show SS p e below T0 m 7 #[vR a1, vI 0, vI 0, vI (Int32.ofNat bs.length), vI 0, vI ((Int32.ofNat j) + (1 : Int32))] [] _
 rw [own_succ j]
 exact kt
theorem lpIxL {p : Program} {l : Launch} {e : Env} {s : State} {m : MethodId} {args : Array Value} {below : List Frame} {meth : Method} {c : Code} {T0 : State} {locs : List Loc} {Z : State} {a0 : Array Value} {h0 : Heap} {n0 : Nat} (a1 : Addr) (bs : List Int32) (k1 : ClassId) (M : Nat) (X0 : Stand p l e (Rm 0 0 0 0) s m args below meth c T0 locs 0 0) (hx : p.tables.exec = Jvm.exec) (hZ : Z.Warmed39 s.vm) (hw : ∀ d ∈ tables_1, d.before a0 Z = true) (hby : c.code = jdk_43_method_23_code) (hml : c.maxLocals = 6) (hown : s.vm.findClass "java/lang/StringLatin1" = some m.cls) (e0 : T0.heap = h0) (O0 : Old Z n0 h0) (N0 : Fr n0 locs) (V1 : Arv Z h0 a1 k1 .byte (Int32.ofNat bs.length) (bs.map Value.int) (.int 0)) (hn : bs.length ≤ 257) (hM : M ≤ bs.length) (hpre : ∀ j, j < M → ¬ ((bs.getD j 0) = (0 : Int32))) :
  ∀ j, j ≤ M → ∃ (T' : State) (L' : List Loc), Stand p l e (Rm 0 0 0 0) s m args below meth c T' L' 0 0 ∧ T'.heap = h0 ∧ Fr n0 L' ∧ ∀ target, SS p e below T' m 7 #[vR a1, vI 0, vI 0, vI (Int32.ofNat bs.length), vI 0, vI (Int32.ofNat j)] [] target → SS p e below T0 m 7 #[vR a1, vI 0, vI 0, vI (Int32.ofNat bs.length), vI 0, vI (Int32.ofNat 0)] [] target := by
 intro j
 induction j with
 | zero => exact fun _ => ⟨T0, locs, X0, e0, N0, fun _ k => k⟩
 | succ j ih =>
  intro hj
  obtain ⟨T, L, X, e1, N, st⟩ := ih (by omega)
  obtain ⟨T2, h2, L2, X2, e2, N2, rfl, st2⟩ := tnIxL a1 bs k1 j X hx hZ hw hby hml hown e1 O0 N V1 hn (by omega) (hpre j (by omega))
  exact ⟨T2, L2, X2, e2, N2, fun t k => st _ (st2 _ k)⟩
theorem d40_0 : decode cD22 0 = .ok (.iload_n 1, 1) := by decide +kernel
theorem d40_1 : decode cD22 1 = .ok (.i2b, 1) := by decide +kernel
theorem d40_2 : decode cD22 2 = .ok (.istore 4, 2) := by decide +kernel
theorem d40_4 : decode cD22 4 = .ok (.iload_n 2, 1) := by decide +kernel
theorem d40_5 : decode cD22 5 = .ok (.istore 5, 2) := by decide +kernel
theorem d40_22 : decode cD22 22 = .ok (.iload 5, 2) := by decide +kernel
theorem d40_24 : decode cD22 24 = .ok (.ireturn, 1) := by decide +kernel
theorem d40_31 : decode cD22 31 = .ok (.iconst (-1), 1) := by decide +kernel
theorem d40_32 : decode cD22 32 = .ok (.ireturn, 1) := by decide +kernel
theorem pn_40 : plainName "java/lang/StringLatin1" = true := by first | (simp [plainName, overriddenIn]; done) | decide +kernel
theorem ef_rmIxL (m : MethodId) (y0 : Addr) (y1 : Int32) : entryFrame m #[(.ref y0), (.int 0), (.int 0), (.int y1)] 6 = (mkF m 0 #[vR y0, vI 0, vI 0, vI y1, .unset, .unset] []) := by first | (simp [entryFrame, mkF, argsToLocals, Value.category]; done) | rfl
def Q_rmIxL (Z : State) (a1 : Addr) (bs : List Int32) (k1 : ClassId) (m1 : Nat) (h0 : Heap) (n0 : Nat) (v : Option Value) (h : Heap) (L : List Loc) : Prop := v = some (.int (if m1 < bs.length then Int32.ofNat m1 else (-1 : Int32))) ∧ Fr n0 L ∧ h = h0
set_option maxRecDepth 65536 in
set_option maxHeartbeats 40000000 in
theorem rmIxL (l : Launch) (Z : State) (a0 : Array Value) (hw : ∀ d ∈ tables_1, d.before a0 Z = true) (ws : List Jvm.Cond) (a1 : Addr) (bs : List Int32) (k1 : ClassId) (m1 : Nat) (h0 : Heap) (n0 : Nat) (O0 : Old Z n0 h0) (V1 : Arv Z h0 a1 k1 .byte (Int32.ofNat bs.length) (bs.map Value.int) (.int 0)) (hn : bs.length ≤ 257) (hm : m1 ≤ bs.length) (hpre : ∀ j, j < m1 → ¬ ((bs.getD j 0) = (0 : Int32))) (hend : m1 < bs.length → (bs.getD m1 0) = (0 : Int32)) :
  MetFree l mN22 (head1 (Jvm.Cond.code mN22 jdk_43_method_23_code 6 (some .int) :: ws) (Rm 0 0 0 0)) (fun a U => a = #[(.ref a1), (.int 0), (.int 0), (.int (Int32.ofNat bs.length))] ∧ Z.Warmed39 U.vm ∧ U.heap = h0) (fun _ _ _ _ _ => True) (fun _ U o U' => ∃ v L, o = .returned v ∧ Q_rmIxL Z a1 bs k1 m1 h0 n0 v U'.heap L ∧ FrameEnd U o U' L (Rm 0 0 0 0).cells (Rm 0 0 0 0).slots) := by
 refine MetFree.of_bodySF (plainFor_of_name pn_40) hisR ?_
 intro p e s m args below meth c s₁ Bd hml0 hP hK
 obtain ⟨rfl, hZ, hh⟩ := hP
 have hx := Bd.exec
 have hby := Bd.bytes
 have hml : c.maxLocals = 6 := hml0
 have hown : s.vm.findClass "java/lang/StringLatin1" = some m.cls := findClass_of_methodNamed Bd.named
 have hnm := (name_of_methodNamed Bd.named Bd.method).1
 have X0 : Stand p l e (Rm 0 0 0 0) s m #[(.ref a1), (.int 0), (.int 0), (.int (Int32.ofNat bs.length))] below meth c s₁ [] 0 0 := Stand.of_body Bd
 have e0 : s₁.heap = h0 := by rw [← hh, Bd.state]; rfl
 have N0 := Fr.nil n0
 have hn0 : n0 ≤ h0.size := O0.1 ▸ O0.2.1
 have pre0 : ∀ t, SS p e below s₁ m 0 #[vR a1, vI 0, vI 0, vI (Int32.ofNat bs.length), .unset, .unset] [] t → Steps p.tables e below (s₁.setTop (entryFrame m #[(.ref a1), (.int 0), (.int 0), (.int (Int32.ofNat bs.length))] 6)) t := fun t k => castTop (ef_rmIxL m a1 ((Int32.ofNat bs.length))) k
 have hj31 : m1 < 2 ^ 31 := by omega
 have hn31 : bs.length < 2 ^ 31 := by omega
 have hr101 : ((0 : Int32).toInt8.toInt32) = (0 : Int32) := by decide
 have pre102 : ∀ t, SS p e below s₁ m 7 #[vR a1, vI 0, vI 0, vI (Int32.ofNat bs.length), vI 0, vI 0] [] t → Steps p.tables e below (s₁.setTop (entryFrame m #[(.ref a1), (.int 0), (.int 0), (.int (Int32.ofNat bs.length))] 6)) t := by
  intro t kt
  refine pre0 _ ?_
  show SS p e below s₁ m 0 #[vR a1, vI 0, vI 0, vI (Int32.ofNat bs.length), .unset, .unset] [] _
  refine XS.iloadN X0.here hx rfl (hb hby d40_0) rfl ?_
  refine XS.i2b X0.here hx rfl (hb hby d40_1) rfl ?_
  show SS p e below s₁ m 2 #[vR a1, vI 0, vI 0, vI (Int32.ofNat bs.length), .unset, .unset] [(.int ((0 : Int32).toInt8.toInt32))] _
  rw [hr101]
  refine XS.istore X0.here hx rfl (hb hby d40_2) rfl (l' := #[vR a1, vI 0, vI 0, vI (Int32.ofNat bs.length), vI 0, .unset]) rfl ?_
  refine XS.iloadN X0.here hx rfl (hb hby d40_4) rfl ?_
  refine XS.istore X0.here hx rfl (hb hby d40_5) rfl (l' := #[vR a1, vI 0, vI 0, vI (Int32.ofNat bs.length), vI 0, vI 0]) rfl ?_
  exact kt
 obtain ⟨T103, L103, X103, e103, N103, st103⟩ := lpIxL a1 bs k1 m1 X0 hx hZ hw hby hml hown e0 O0 N0 V1 hn hm hpre m1 (Nat.le_refl _)
 have pre105 : ∀ t, SS p e below T103 m 10 #[vR a1, vI 0, vI 0, vI (Int32.ofNat bs.length), vI 0, vI (Int32.ofNat m1)] [(.int (Int32.ofNat bs.length)), (.int (Int32.ofNat m1))] t → Steps p.tables e below (s₁.setTop (entryFrame m #[(.ref a1), (.int 0), (.int 0), (.int (Int32.ofNat bs.length))] 6)) t := by
  intro t kt
  refine pre102 _ ?_
  refine st103 _ ?_
  show SS p e below T103 m 7 #[vR a1, vI 0, vI 0, vI (Int32.ofNat bs.length), vI 0, vI (Int32.ofNat m1)] [] _
  refine XS.iload X103.here hx rfl (hb hby d40_7) rfl ?_
  refine XS.iloadN X103.here hx rfl (hb hby d40_9) rfl ?_
  exact kt
 by_cases hc104 : (Int32.ofNat m1) < (Int32.ofNat bs.length)
 ·skip
  have hj : m1 < bs.length := (own_lt hj31 hn31).mp hc104
  obtain ⟨cl106, Ar106, q106, S106, Nn106, H106, G106⟩ := id V1
  have hat106 : cl106.slots[((Int32.ofNat m1)).toNatClampNeg]? = some (.int (bs.getD m1 0)) := (Has.at H106 (inb_of S106 ⟨own_nn hj31, (own_lt hj31 hn31).mpr hj⟩) (own_getD _ hj hj31))
  obtain ⟨fs, hr, hrun, hended, hW, hsame⟩ := X103.leave (v := some (.int (Int32.ofNat m1))) (fun h => by rw [Bd.returns] at h; cases h)
  refine ⟨_, _, pre105 _ ?_, hrun, hended, _, _, rfl, ?_, ⟨_, rfl⟩, hW, hsame.mono (by decide) (by decide)⟩
  ·skip
   show SS p e below T103 m 10 #[vR a1, vI 0, vI 0, vI (Int32.ofNat bs.length), vI 0, vI (Int32.ofNat m1)] [(.int (Int32.ofNat bs.length)), (.int (Int32.ofNat m1))] _
   refine XS.icmpNo X103.here hx rfl (hb hby d40_10) rfl (tlt hc104).2.1 ?_
   refine XS.aloadN X103.here hx rfl (hb hby d40_13) rfl rfl ?_
   refine XS.iload X103.here hx rfl (hb hby d40_14) rfl ?_
   show SS p e below T103 m 16 #[vR a1, vI 0, vI 0, vI (Int32.ofNat bs.length), vI 0, vI (Int32.ofNat m1)] [(.int (Int32.ofNat m1)), (.ref a1)] _
   refine X103.baloadBytes hx (j := (Int32.ofNat m1)) (v := (.int (bs.getD m1 0))) (by rw [e103]; exact Ar106.1) (State.isArrayOf_alike hZ.alike Ar106.2.1) Ar106.2.2 (inb_of S106 ⟨own_nn hj31, (own_lt hj31 hn31).mpr hj⟩) hat106 (g := (mkF m 16 #[vR a1, vI 0, vI 0, vI (Int32.ofNat bs.length), vI 0, vI (Int32.ofNat m1)] [(.int (Int32.ofNat m1)), (.ref a1)])) rfl rfl (hb hby d40_16) _ ?_
   refine XS.iload X103.here hx rfl (hb hby d40_17) rfl ?_
   refine XS.icmpNo X103.here hx rfl (hb hby d40_19) rfl (teq (hend hj : (bs.getD m1 0) = (0 : Int32))).2 ?_
   refine XS.iload X103.here hx rfl (hb hby d40_22) rfl ?_
   show SS p e below T103 m 24 #[vR a1, vI 0, vI 0, vI (Int32.ofNat bs.length), vI 0, vI (Int32.ofNat m1)] [(.int (Int32.ofNat m1))] _
   exact retI X103 hx Bd.returns (hb hby d40_24) hr
  ·show Q_rmIxL Z a1 bs k1 m1 h0 n0 _ T103.heap _
   rw [e103]
   exact ⟨by rw [if_pos hj], N103, rfl⟩
 ·skip
  obtain ⟨fs, hr, hrun, hended, hW, hsame⟩ := X103.leave (v := some (.int (-1 : Int32))) (fun h => by rw [Bd.returns] at h; cases h)
  refine ⟨_, _, pre105 _ ?_, hrun, hended, _, _, rfl, ?_, ⟨_, rfl⟩, hW, hsame.mono (by decide) (by decide)⟩
  ·skip
   show SS p e below T103 m 10 #[vR a1, vI 0, vI 0, vI (Int32.ofNat bs.length), vI 0, vI (Int32.ofNat m1)] [(.int (Int32.ofNat bs.length)), (.int (Int32.ofNat m1))] _
   refine XS.icmpYes X103.here hx rfl (pc0 := 10) (pc' := 31) rfl (hb hby d40_10) rfl (flt hc104).2.1 (by decide) (by decide) ?_
   refine XS.iconst X103.here hx rfl (hb hby d40_31) ?_
   show SS p e below T103 m 32 #[vR a1, vI 0, vI 0, vI (Int32.ofNat bs.length), vI 0, vI (Int32.ofNat m1)] [(.int (-1 : Int32))] _
   exact retI X103 hx Bd.returns (hb hby d40_32) hr
  ·show Q_rmIxL Z a1 bs k1 m1 h0 n0 _ T103.heap _
   rw [e103]
   exact ⟨by rw [if_neg (fun q => hc104 ((own_lt hj31 hn31).mpr q))], N103, rfl⟩
theorem d34_3 : decode cD23 3 = .ok (.iload 4, 2) := by decide +kernel
theorem d34_5 : decode cD23 5 = .ok (.iload_n 3, 1) := by decide +kernel
theorem d34_6 : decode cD23 6 = .ok (.if_icmp .ge 22, 3) := by decide +kernel
theorem d34_9 : decode cD23 9 = .ok (.aload_n 0, 1) := by decide +kernel
theorem d34_10 : decode cD23 10 = .ok (.iload 4, 2) := by decide +kernel
theorem d34_12 : decode cD23 12 = .ok (.invokestatic 71, 3) := by decide +kernel
theorem d34_15 : decode cD23 15 = .ok (.iload_n 1, 1) := by decide +kernel
theorem d34_16 : decode cD23 16 = .ok (.if_icmp .ne 6, 3) := by decide +kernel
theorem d34_22 : decode cD23 22 = .ok (.iinc 4 1, 3) := by decide +kernel
theorem d34_25 : decode cD23 25 = .ok (.goto (-22), 3) := by decide +kernel
set_option maxRecDepth 65536 in
set_option maxHeartbeats 40000000 in
theorem tnIxU {p : Program} {l : Launch} {e : Env} {s : State} {m : MethodId} {args : Array Value} {below : List Frame} {meth : Method} {c : Code} {T0 : State} {locs : List Loc} {Z : State} {a0 : Array Value} {h0 : Heap} {n0 : Nat} (a1 : Addr) (cs : List Int32) (k1 : ClassId) (j : Nat)
  (X0 : Stand p l e (Rm 1 0 0 20) s m args below meth c T0 locs 0 0) (hx : p.tables.exec = Jvm.exec) (hZ : Z.Warmed39 s.vm) (hw : ∀ d ∈ tables_1, d.before a0 Z = true) (hby : c.code = jdk_52_method_48_code) (hml : c.maxLocals = 5) (hown : s.vm.findClass "java/lang/StringUTF16" = some m.cls) (e0 : T0.heap = h0) (O0 : Old Z n0 h0) (N0 : Fr n0 locs) (S_AD : SAD Z) (S_HI : SHI Z) (S_LO : SLO Z) (V1 : Arv Z h0 a1 k1 .byte (Int32.ofNat (2 * cs.length)) (u16 cs) (.int 0)) (hn : cs.length ≤ 257) (hcs : ∀ c ∈ cs, ¬ c < 0 ∧ ¬ (65535 : Int32) < c) (hj : j < cs.length) (hb0 : ¬ ((cs.getD j 0) = (0 : Int32))) :
  ∃ (T' : State) (h' : Heap) (L' : List Loc), Stand p l e (Rm 1 0 0 20) s m args below meth c T' L' 0 0 ∧ T'.heap = h' ∧ Fr n0 L' ∧ h' = h0 ∧ ∀ target, SS p e below T' m 3 #[vR a1, vI 0, vI 0, vI (Int32.ofNat cs.length), vI (Int32.ofNat (j + 1))] [] target → SS p e below T0 m 3 #[vR a1, vI 0, vI 0, vI (Int32.ofNat cs.length), vI (Int32.ofNat j)] [] target := by
 have hn0 : n0 ≤ h0.size := O0.1 ▸ O0.2.1
 have pre0 : ∀ t, SS p e below T0 m 3 #[vR a1, vI 0, vI 0, vI (Int32.ofNat cs.length), vI (Int32.ofNat j)] [] t → SS p e below T0 m 3 #[vR a1, vI 0, vI 0, vI (Int32.ofNat cs.length), vI (Int32.ofNat j)] [] t := fun t k => k
 have hj31 : j < 2 ^ 31 := by omega
 have hn31 : cs.length < 2 ^ 31 := by omega
 obtain ⟨_, _, ⟨T101, L101, k101, n101⟩, -, X101, ⟨Lc101, hQ101, l101, y101, z101⟩, st101⟩ := Jvm.LawKit.callS X0 hx (y := mN0) hown (mvT hZ (tw hw 64 rfl)) (mvT hZ (tw hw 65 rfl)) (mvT hZ (tw hw 43 rfl)) (mvT hZ (tw hw 66 rfl)) (by decide) (backOf (W := 0) (rmGetChar l Z a0 hw [] a1 j k1 (Int32.ofNat (2 * cs.length)) (u16 cs) ((cs.getD j 0).toInt8.toInt32) (((cs.getD j 0) >>> ((8 : Int32) &&& 31)).toInt8.toInt32) h0 n0 O0 S_AD S_HI S_LO V1 (by omega) ((own_lt (by omega) (by omega)).mpr (by omega)) ((own_lt (by omega) (by omega)).mpr (by omega)) (u16_get cs hj).1 (u16_get cs hj).2) hZ (tw hw 66 rfl) (tw hw 43 rfl) (by decide) (by decide)) (g := (mkF m 12 #[vR a1, vI 0, vI 0, vI (Int32.ofNat cs.length), vI (Int32.ofNat j)] [(.int (Int32.ofNat j)), (.ref a1)])) rfl (by rw [hml]; rfl) (argsL := [(.ref a1), (.int (Int32.ofNat j))]) (rest := []) (lenOf pd_12 rfl) rfl (by show 2 * 0 + _ ≤ _; exact Nat.le_of_eq rfl) (hb hby d34_12) (fun _ _ => ⟨rfl, e0, (by decide : 0 + 0 ≤ _), (by decide : 0 + 0 ≤ _)⟩)
 dsimp only [Pt.U, Pt.locs, Pt.cells, Pt.slots] at X101 l101 y101 z101 st101 hQ101
 subst l101 y101 z101
 obtain ⟨rfl, N101q, H101⟩ := hQ101
 have N101 := Fr.app N0 N101q
 have hr102 : (StrChars.pairCh (StrChars.lo8 (cs.getD j 0)) (StrChars.hi8 (cs.getD j 0))) = (cs.getD j 0) := StrChars.pair_says (own_rng hcs hj).1 (own_rng hcs hj).2
 refine ⟨T101, h0, _, X101, H101, N101, rfl, fun target kt => pre0 _ ?_⟩
 show SS p e below T0 m 3 #[vR a1, vI 0, vI 0, vI (Int32.ofNat cs.length), vI (Int32.ofNat j)] [] _
 refine XS.iload X0.here hx rfl (hb hby d34_3) rfl ?_
 refine XS.iloadN X0.here hx rfl (hb hby d34_5) rfl ?_
 refine XS.icmpNo X0.here hx rfl (hb hby d34_6) rfl (tlt ((own_lt hj31 hn31).mpr hj : (Int32.ofNat j) < (Int32.ofNat cs.length))).2.1 ?_
 refine XS.aloadN X0.here hx rfl (hb hby d34_9) rfl rfl ?_
 refine XS.iload X0.here hx rfl (hb hby d34_10) rfl ?_
 show SS p e below T0 m 12 #[vR a1, vI 0, vI 0, vI (Int32.ofNat cs.length), vI (Int32.ofNat j)] [(.int (Int32.ofNat j)), (.ref a1)] _
 refine st101 _ ?_
 show SS p e below T101 m 15 #[vR a1, vI 0, vI 0, vI (Int32.ofNat cs.length), vI (Int32.ofNat j)] [(.int (StrChars.pairCh (StrChars.lo8 (cs.getD j 0)) (StrChars.hi8 (cs.getD j 0))))] _
 rw [hr102]
 refine XS.iloadN X101.here hx rfl (hb hby d34_15) rfl ?_
 refine XS.icmpYes X101.here hx rfl (pc0 := 16) (pc' := 22) rfl (hb hby d34_16) rfl (feq (hb0 : ¬ ((cs.getD j 0) = (0 : Int32)))).2 (by decide) (by decide) ?_
 refine XS.iinc X101.here hx rfl (hb hby d34_22) rfl (l' := #[vR a1, vI 0, vI 0, vI (Int32.ofNat cs.length), vI ((Int32.ofNat j) + (1 : Int32))]) rfl ?_
 refine XS.goto X101.here hx rfl (pc0 := 25) (pc' := 3) rfl (hb hby d34_25) (by decide) (by decide) ?_
 show SS p e below T101 m 3 #[vR a1, vI 0, vI 0, vI (Int32.ofNat cs.length), vI ((Int32.ofNat j) + (1 : Int32))] [] _
 rw [own_succ j]
 exact kt
theorem lpIxU {p : Program} {l : Launch} {e : Env} {s : State} {m : MethodId} {args : Array Value} {below : List Frame} {meth : Method} {c : Code} {T0 : State} {locs : List Loc} {Z : State} {a0 : Array Value} {h0 : Heap} {n0 : Nat} (a1 : Addr) (cs : List Int32) (k1 : ClassId) (M : Nat) (X0 : Stand p l e (Rm 1 0 0 20) s m args below meth c T0 locs 0 0) (hx : p.tables.exec = Jvm.exec) (hZ : Z.Warmed39 s.vm) (hw : ∀ d ∈ tables_1, d.before a0 Z = true) (hby : c.code = jdk_52_method_48_code) (hml : c.maxLocals = 5) (hown : s.vm.findClass "java/lang/StringUTF16" = some m.cls) (e0 : T0.heap = h0) (O0 : Old Z n0 h0) (N0 : Fr n0 locs) (S_AD : SAD Z) (S_HI : SHI Z) (S_LO : SLO Z) (V1 : Arv Z h0 a1 k1 .byte (Int32.ofNat (2 * cs.length)) (u16 cs) (.int 0)) (hn : cs.length ≤ 257) (hcs : ∀ c ∈ cs, ¬ c < 0 ∧ ¬ (65535 : Int32) < c) (hM : M ≤ cs.length) (hpre : ∀ j, j < M → ¬ ((cs.getD j 0) = (0 : Int32))) :
  ∀ j, j ≤ M → ∃ (T' : State) (L' : List Loc), Stand p l e (Rm 1 0 0 20) s m args below meth c T' L' 0 0 ∧ T'.heap = h0 ∧ Fr n0 L' ∧ ∀ target, SS p e below T' m 3 #[vR a1, vI 0, vI 0, vI (Int32.ofNat cs.length), vI (Int32.ofNat j)] [] target → SS p e below T0 m 3 #[vR a1, vI 0, vI 0, vI (Int32.ofNat cs.length), vI (Int32.ofNat 0)] [] target := by
 intro j
 induction j with
 | zero => exact fun _ => ⟨T0, locs, X0, e0, N0, fun _ k => k⟩
 | succ j ih =>
  intro hj
  obtain ⟨T, L, X, e1, N, st⟩ := ih (by omega)
  obtain ⟨T2, h2, L2, X2, e2, N2, rfl, st2⟩ := tnIxU a1 cs k1 j X hx hZ hw hby hml hown e1 O0 N S_AD S_HI S_LO V1 hn hcs (by omega) (hpre j (by omega))
  exact ⟨T2, L2, X2, e2, N2, fun t k => st _ (st2 _ k)⟩
theorem d34_0 : decode cD23 0 = .ok (.iload_n 2, 1) := by decide +kernel
theorem d34_1 : decode cD23 1 = .ok (.istore 4, 2) := by decide +kernel
theorem d34_19 : decode cD23 19 = .ok (.iload 4, 2) := by decide +kernel
theorem d34_21 : decode cD23 21 = .ok (.ireturn, 1) := by decide +kernel
theorem d34_28 : decode cD23 28 = .ok (.iconst (-1), 1) := by decide +kernel
theorem d34_29 : decode cD23 29 = .ok (.ireturn, 1) := by decide +kernel
theorem pn_34 : plainName "java/lang/StringUTF16" = true := by first | (simp [plainName, overriddenIn]; done) | decide +kernel
theorem ef_rmIxU (m : MethodId) (y0 : Addr) (y1 : Int32) : entryFrame m #[(.ref y0), (.int 0), (.int 0), (.int y1)] 5 = (mkF m 0 #[vR y0, vI 0, vI 0, vI y1, .unset] []) := by first | (simp [entryFrame, mkF, argsToLocals, Value.category]; done) | rfl
def Q_rmIxU (Z : State) (a1 : Addr) (cs : List Int32) (k1 : ClassId) (m1 : Nat) (h0 : Heap) (n0 : Nat) (v : Option Value) (h : Heap) (L : List Loc) : Prop := v = some (.int (if m1 < cs.length then Int32.ofNat m1 else (-1 : Int32))) ∧ Fr n0 L ∧ h = h0
set_option maxRecDepth 65536 in
set_option maxHeartbeats 40000000 in
theorem rmIxU (l : Launch) (Z : State) (a0 : Array Value) (hw : ∀ d ∈ tables_1, d.before a0 Z = true) (ws : List Jvm.Cond) (a1 : Addr) (cs : List Int32) (k1 : ClassId) (m1 : Nat) (h0 : Heap) (n0 : Nat) (O0 : Old Z n0 h0) (S_AD : SAD Z) (S_HI : SHI Z) (S_LO : SLO Z) (V1 : Arv Z h0 a1 k1 .byte (Int32.ofNat (2 * cs.length)) (u16 cs) (.int 0)) (hn : cs.length ≤ 257) (hcs : ∀ c ∈ cs, ¬ c < 0 ∧ ¬ (65535 : Int32) < c) (hm : m1 ≤ cs.length) (hpre : ∀ j, j < m1 → ¬ ((cs.getD j 0) = (0 : Int32))) (hend : m1 < cs.length → (cs.getD m1 0) = (0 : Int32)) :
  MetFree l mN23 (head1 (Jvm.Cond.code mN23 jdk_52_method_48_code 5 (some .int) :: ws) (Rm 1 0 0 20)) (fun a U => a = #[(.ref a1), (.int 0), (.int 0), (.int (Int32.ofNat cs.length))] ∧ Z.Warmed39 U.vm ∧ U.heap = h0) (fun _ _ _ _ _ => True) (fun _ U o U' => ∃ v L, o = .returned v ∧ Q_rmIxU Z a1 cs k1 m1 h0 n0 v U'.heap L ∧ FrameEnd U o U' L (Rm 1 0 0 20).cells (Rm 1 0 0 20).slots) := by
 refine MetFree.of_bodySF (plainFor_of_name pn_34) hisR ?_
 intro p e s m args below meth c s₁ Bd hml0 hP hK
 obtain ⟨rfl, hZ, hh⟩ := hP
 have hx := Bd.exec
 have hby := Bd.bytes
 have hml : c.maxLocals = 5 := hml0
 have hown : s.vm.findClass "java/lang/StringUTF16" = some m.cls := findClass_of_methodNamed Bd.named
 have hnm := (name_of_methodNamed Bd.named Bd.method).1
 have X0 : Stand p l e (Rm 1 0 0 20) s m #[(.ref a1), (.int 0), (.int 0), (.int (Int32.ofNat cs.length))] below meth c s₁ [] 0 0 := Stand.of_body Bd
 have e0 : s₁.heap = h0 := by rw [← hh, Bd.state]; rfl
 have N0 := Fr.nil n0
 have hn0 : n0 ≤ h0.size := O0.1 ▸ O0.2.1
 have pre0 : ∀ t, SS p e below s₁ m 0 #[vR a1, vI 0, vI 0, vI (Int32.ofNat cs.length), .unset] [] t → Steps p.tables e below (s₁.setTop (entryFrame m #[(.ref a1), (.int 0), (.int 0), (.int (Int32.ofNat cs.length))] 5)) t := fun t k => castTop (ef_rmIxU m a1 ((Int32.ofNat cs.length))) k
 have hj31 : m1 < 2 ^ 31 := by omega
 have hn31 : cs.length < 2 ^ 31 := by omega
 have pre101 : ∀ t, SS p e below s₁ m 3 #[vR a1, vI 0, vI 0, vI (Int32.ofNat cs.length), vI 0] [] t → Steps p.tables e below (s₁.setTop (entryFrame m #[(.ref a1), (.int 0), (.int 0), (.int (Int32.ofNat cs.length))] 5)) t := by
  intro t kt
  refine pre0 _ ?_
  show SS p e below s₁ m 0 #[vR a1, vI 0, vI 0, vI (Int32.ofNat cs.length), .unset] [] _
  refine XS.iloadN X0.here hx rfl (hb hby d34_0) rfl ?_
  refine XS.istore X0.here hx rfl (hb hby d34_1) rfl (l' := #[vR a1, vI 0, vI 0, vI (Int32.ofNat cs.length), vI 0]) rfl ?_
  exact kt
 obtain ⟨T102, L102, X102, e102, N102, st102⟩ := lpIxU a1 cs k1 m1 X0 hx hZ hw hby hml hown e0 O0 N0 S_AD S_HI S_LO V1 hn hcs hm hpre m1 (Nat.le_refl _)
 have pre104 : ∀ t, SS p e below T102 m 6 #[vR a1, vI 0, vI 0, vI (Int32.ofNat cs.length), vI (Int32.ofNat m1)] [(.int (Int32.ofNat cs.length)), (.int (Int32.ofNat m1))] t → Steps p.tables e below (s₁.setTop (entryFrame m #[(.ref a1), (.int 0), (.int 0), (.int (Int32.ofNat cs.length))] 5)) t := by
  intro t kt
  refine pre101 _ ?_
  refine st102 _ ?_
  show SS p e below T102 m 3 #[vR a1, vI 0, vI 0, vI (Int32.ofNat cs.length), vI (Int32.ofNat m1)] [] _
  refine XS.iload X102.here hx rfl (hb hby d34_3) rfl ?_
  refine XS.iloadN X102.here hx rfl (hb hby d34_5) rfl ?_
  exact kt
 by_cases hc103 : (Int32.ofNat m1) < (Int32.ofNat cs.length)
 ·skip
  have hj : m1 < cs.length := (own_lt hj31 hn31).mp hc103
  obtain ⟨_, _, ⟨T105, L105, k105, n105⟩, -, X105, ⟨Lc105, hQ105, l105, y105, z105⟩, st105⟩ := Jvm.LawKit.callS X102 hx (y := mN0) hown (mvT hZ (tw hw 64 rfl)) (mvT hZ (tw hw 65 rfl)) (mvT hZ (tw hw 43 rfl)) (mvT hZ (tw hw 66 rfl)) (by decide) (backOf (W := 0) (rmGetChar l Z a0 hw [] a1 m1 k1 (Int32.ofNat (2 * cs.length)) (u16 cs) ((cs.getD m1 0).toInt8.toInt32) (((cs.getD m1 0) >>> ((8 : Int32) &&& 31)).toInt8.toInt32) h0 n0 O0 S_AD S_HI S_LO V1 (by omega) ((own_lt (by omega) (by omega)).mpr (by omega)) ((own_lt (by omega) (by omega)).mpr (by omega)) (u16_get cs hj).1 (u16_get cs hj).2) hZ (tw hw 66 rfl) (tw hw 43 rfl) (by decide) (by decide)) (g := (mkF m 12 #[vR a1, vI 0, vI 0, vI (Int32.ofNat cs.length), vI (Int32.ofNat m1)] [(.int (Int32.ofNat m1)), (.ref a1)])) rfl (by rw [hml]; rfl) (argsL := [(.ref a1), (.int (Int32.ofNat m1))]) (rest := []) (lenOf pd_12 rfl) rfl (by show 2 * 0 + _ ≤ _; exact Nat.le_of_eq rfl) (hb hby d34_12) (fun _ _ => ⟨rfl, e102, (by decide : 0 + 0 ≤ _), (by decide : 0 + 0 ≤ _)⟩)
  dsimp only [Pt.U, Pt.locs, Pt.cells, Pt.slots] at X105 l105 y105 z105 st105 hQ105
  subst l105 y105 z105
  obtain ⟨rfl, N105q, H105⟩ := hQ105
  have N105 := Fr.app N102 N105q
  have hr106 : (StrChars.pairCh (StrChars.lo8 (cs.getD m1 0)) (StrChars.hi8 (cs.getD m1 0))) = (cs.getD m1 0) := StrChars.pair_says (own_rng hcs hj).1 (own_rng hcs hj).2
  obtain ⟨fs, hr, hrun, hended, hW, hsame⟩ := X105.leave (v := some (.int (Int32.ofNat m1))) (fun h => by rw [Bd.returns] at h; cases h)
  refine ⟨_, _, pre104 _ ?_, hrun, hended, _, _, rfl, ?_, ⟨_, rfl⟩, hW, hsame.mono (by decide) (by decide)⟩
  ·skip
   show SS p e below T102 m 6 #[vR a1, vI 0, vI 0, vI (Int32.ofNat cs.length), vI (Int32.ofNat m1)] [(.int (Int32.ofNat cs.length)), (.int (Int32.ofNat m1))] _
   refine XS.icmpNo X102.here hx rfl (hb hby d34_6) rfl (tlt hc103).2.1 ?_
   refine XS.aloadN X102.here hx rfl (hb hby d34_9) rfl rfl ?_
   refine XS.iload X102.here hx rfl (hb hby d34_10) rfl ?_
   show SS p e below T102 m 12 #[vR a1, vI 0, vI 0, vI (Int32.ofNat cs.length), vI (Int32.ofNat m1)] [(.int (Int32.ofNat m1)), (.ref a1)] _
   refine st105 _ ?_
   show SS p e below T105 m 15 #[vR a1, vI 0, vI 0, vI (Int32.ofNat cs.length), vI (Int32.ofNat m1)] [(.int (StrChars.pairCh (StrChars.lo8 (cs.getD m1 0)) (StrChars.hi8 (cs.getD m1 0))))] _
   rw [hr106]
   refine XS.iloadN X105.here hx rfl (hb hby d34_15) rfl ?_
   refine XS.icmpNo X105.here hx rfl (hb hby d34_16) rfl (teq (hend hj : (cs.getD m1 0) = (0 : Int32))).2 ?_
   refine XS.iload X105.here hx rfl (hb hby d34_19) rfl ?_
   show SS p e below T105 m 21 #[vR a1, vI 0, vI 0, vI (Int32.ofNat cs.length), vI (Int32.ofNat m1)] [(.int (Int32.ofNat m1))] _
   exact retI X105 hx Bd.returns (hb hby d34_21) hr
  ·show Q_rmIxU Z a1 cs k1 m1 h0 n0 _ T105.heap _
   rw [H105]
   exact ⟨by rw [if_pos hj], N105, rfl⟩
 ·skip
  obtain ⟨fs, hr, hrun, hended, hW, hsame⟩ := X102.leave (v := some (.int (-1 : Int32))) (fun h => by rw [Bd.returns] at h; cases h)
  refine ⟨_, _, pre104 _ ?_, hrun, hended, _, _, rfl, ?_, ⟨_, rfl⟩, hW, hsame.mono (by decide) (by decide)⟩
  ·skip
   show SS p e below T102 m 6 #[vR a1, vI 0, vI 0, vI (Int32.ofNat cs.length), vI (Int32.ofNat m1)] [(.int (Int32.ofNat cs.length)), (.int (Int32.ofNat m1))] _
   refine XS.icmpYes X102.here hx rfl (pc0 := 6) (pc' := 28) rfl (hb hby d34_6) rfl (flt hc103).2.1 (by decide) (by decide) ?_
   refine XS.iconst X102.here hx rfl (hb hby d34_28) ?_
   show SS p e below T102 m 29 #[vR a1, vI 0, vI 0, vI (Int32.ofNat cs.length), vI (Int32.ofNat m1)] [(.int (-1 : Int32))] _
   exact retI X102 hx Bd.returns (hb hby d34_29) hr
  ·show Q_rmIxU Z a1 cs k1 m1 h0 n0 _ T102.heap _
   rw [e102]
   exact ⟨by rw [if_neg (fun q => hc103 ((own_lt hj31 hn31).mpr q))], N102, rfl⟩
theorem d23_44 : decode cD24 44 = .ok (.iload 5, 2) := by decide +kernel
theorem d23_46 : decode cD24 46 = .ok (.iload_n 2, 1) := by decide +kernel
theorem d23_47 : decode cD24 47 = .ok (.iconst 1, 1) := by decide +kernel
theorem d23_48 : decode cD24 48 = .ok (.isub, 1) := by decide +kernel
theorem d23_49 : decode cD24 49 = .ok (.if_icmp .ge 39, 3) := by decide +kernel
theorem d23_52 : decode cD24 52 = .ok (.aload_n 0, 1) := by decide +kernel
theorem d23_53 : decode cD24 53 = .ok (.iload 5, 2) := by decide +kernel
theorem d23_55 : decode cD24 55 = .ok (.iinc 5 1, 3) := by decide +kernel
theorem d23_58 : decode cD24 58 = .ok (.invokestatic 71, 3) := by decide +kernel
theorem d23_61 : decode cD24 61 = .ok (.invokestatic 75, 3) := by decide +kernel
theorem d23_64 : decode cD24 64 = .ok (.ifCond .eq (-20), 3) := by decide +kernel
theorem pd_21 : parseMethodDescriptor "(C)Z" = some ⟨[.char], some .boolean⟩ := by decide +kernel
set_option maxRecDepth 65536 in
set_option maxHeartbeats 40000000 in
theorem tnCpA {p : Program} {l : Launch} {e : Env} {s : State} {m : MethodId} {args : Array Value} {below : List Frame} {meth : Method} {c : Code} {T0 : State} {locs : List Loc} {Z : State} {a0 : Array Value} {h0 : Heap} {n0 : Nat} (a1 : Addr) (cs : List Int32) (k1 : ClassId) (i q : Nat)
  (X0 : Stand p l e (Rm 1 0 0 20) s m args below meth c T0 locs 0 0) (hx : p.tables.exec = Jvm.exec) (hZ : Z.Warmed39 s.vm) (hw : ∀ d ∈ tables_1, d.before a0 Z = true) (hby : c.code = jdk_52_method_11_code) (hml : c.maxLocals = 6) (hown : s.vm.findClass "java/lang/StringUTF16" = some m.cls) (e0 : T0.heap = h0) (O0 : Old Z n0 h0) (N0 : Fr n0 locs) (S_AD : SAD Z) (S_HI : SHI Z) (S_LO : SLO Z) (V1 : Arv Z h0 a1 k1 .byte (Int32.ofNat (2 * cs.length)) (u16 cs) (.int 0)) (hn : cs.length ≤ 257) (hcs : ∀ c ∈ cs, ¬ c < 0 ∧ ¬ (65535 : Int32) < c) (hi : i + 1 < cs.length) (hA : (hiS (cs.getD i 0)) = (0 : Int32)) :
  ∃ (T' : State) (h' : Heap) (L' : List Loc), Stand p l e (Rm 1 0 0 20) s m args below meth c T' L' 0 0 ∧ T'.heap = h' ∧ Fr n0 L' ∧ h' = h0 ∧ ∀ target, SS p e below T' m 44 #[vR a1, vI 0, vI (Int32.ofNat cs.length), vI 0, vI (Int32.ofNat q), vI (Int32.ofNat (i + 1))] [] target → SS p e below T0 m 44 #[vR a1, vI 0, vI (Int32.ofNat cs.length), vI 0, vI (Int32.ofNat q), vI (Int32.ofNat i)] [] target := by
 have hn0 : n0 ≤ h0.size := O0.1 ▸ O0.2.1
 have pre0 : ∀ t, SS p e below T0 m 44 #[vR a1, vI 0, vI (Int32.ofNat cs.length), vI 0, vI (Int32.ofNat q), vI (Int32.ofNat i)] [] t → SS p e below T0 m 44 #[vR a1, vI 0, vI (Int32.ofNat cs.length), vI 0, vI (Int32.ofNat q), vI (Int32.ofNat i)] [] t := fun t k => k
 have hn31 : cs.length < 2 ^ 31 := by omega
 obtain ⟨_, _, ⟨T101, L101, k101, n101⟩, -, X101, ⟨Lc101, hQ101, l101, y101, z101⟩, st101⟩ := Jvm.LawKit.callS X0 hx (y := mN0) hown (mvT hZ (tw hw 64 rfl)) (mvT hZ (tw hw 65 rfl)) (mvT hZ (tw hw 43 rfl)) (mvT hZ (tw hw 66 rfl)) (by decide) (backOf (W := 0) (rmGetChar l Z a0 hw [] a1 i k1 (Int32.ofNat (2 * cs.length)) (u16 cs) ((cs.getD i 0).toInt8.toInt32) (((cs.getD i 0) >>> ((8 : Int32) &&& 31)).toInt8.toInt32) h0 n0 O0 S_AD S_HI S_LO V1 (by omega) ((own_lt (by omega) (by omega)).mpr (by omega)) ((own_lt (by omega) (by omega)).mpr (by omega)) (u16_get cs (by omega : i < cs.length)).1 (u16_get cs (by omega : i < cs.length)).2) hZ (tw hw 66 rfl) (tw hw 43 rfl) (by decide) (by decide)) (g := (mkF m 58 #[vR a1, vI 0, vI (Int32.ofNat cs.length), vI 0, vI (Int32.ofNat q), vI ((Int32.ofNat i) + (1 : Int32))] [(.int (Int32.ofNat i)), (.ref a1)])) rfl (by rw [hml]; rfl) (argsL := [(.ref a1), (.int (Int32.ofNat i))]) (rest := []) (lenOf pd_12 rfl) rfl (by show 2 * 0 + _ ≤ _; exact Nat.le_of_eq rfl) (hb hby d23_58) (fun _ _ => ⟨rfl, e0, (by decide : 0 + 0 ≤ _), (by decide : 0 + 0 ≤ _)⟩)
 dsimp only [Pt.U, Pt.locs, Pt.cells, Pt.slots] at X101 l101 y101 z101 st101 hQ101
 subst l101 y101 z101
 obtain ⟨rfl, N101q, H101⟩ := hQ101
 have N101 := Fr.app N0 N101q
 have hr102 : ((Int32.ofNat i) + (1 : Int32)) = (Int32.ofNat (i + 1)) := own_succ i
 have hr103 : (StrChars.pairCh (StrChars.lo8 (cs.getD i 0)) (StrChars.hi8 (cs.getD i 0))) = (cs.getD i 0) := StrChars.pair_says (own_rng hcs (by omega : i < cs.length)).1 (own_rng hcs (by omega : i < cs.length)).2
 obtain ⟨_, _, ⟨T104, L104, k104, n104⟩, -, X104, ⟨Lc104, hQ104, l104, y104, z104⟩, st104⟩ := Jvm.LawKit.callS X101 hx (y := mN13) hown (mvT hZ (tw hw 105 rfl)) (mvT hZ (tw hw 106 rfl)) (mvT hZ (tw hw 107 rfl)) (mvT hZ (tw hw 108 rfl)) (by decide) (backOf (W := 0) (rmisHighSurrogate l Z a0 hw [] (cs.getD i 0)  h0 n0 O0 ) hZ (tw hw 108 rfl) (tw hw 107 rfl) (by decide) (by decide)) (g := (mkF m 61 #[vR a1, vI 0, vI (Int32.ofNat cs.length), vI 0, vI (Int32.ofNat q), vI (Int32.ofNat (i + 1))] [(.int (cs.getD i 0))])) rfl (by rw [hml]; rfl) (argsL := [(.int (cs.getD i 0))]) (rest := []) (lenOf pd_21 rfl) rfl (by show 2 * 0 + _ ≤ _; exact Nat.le_of_eq rfl) (hb hby d23_61) (fun _ _ => ⟨rfl, H101, (by decide : 0 + 0 ≤ _), (by decide : 0 + 0 ≤ _)⟩)
 dsimp only [Pt.U, Pt.locs, Pt.cells, Pt.slots] at X104 l104 y104 z104 st104 hQ104
 subst l104 y104 z104
 obtain ⟨rfl, N104q, H104⟩ := hQ104
 have N104 := Fr.app N101 N104q
 refine ⟨T104, h0, _, X104, H104, N104, rfl, fun target kt => pre0 _ ?_⟩
 show SS p e below T0 m 44 #[vR a1, vI 0, vI (Int32.ofNat cs.length), vI 0, vI (Int32.ofNat q), vI (Int32.ofNat i)] [] _
 refine XS.iload X0.here hx rfl (hb hby d23_44) rfl ?_
 refine XS.iloadN X0.here hx rfl (hb hby d23_46) rfl ?_
 refine XS.iconst X0.here hx rfl (hb hby d23_47) ?_
 refine XS.isub X0.here hx rfl (hb hby d23_48) rfl ?_
 refine XS.icmpNo X0.here hx rfl (hb hby d23_49) rfl (tlt (own_lt1 (by omega) hi : (Int32.ofNat i) < ((Int32.ofNat cs.length) - (1 : Int32)))).2.1 ?_
 refine XS.aloadN X0.here hx rfl (hb hby d23_52) rfl rfl ?_
 refine XS.iload X0.here hx rfl (hb hby d23_53) rfl ?_
 refine XS.iinc X0.here hx rfl (hb hby d23_55) rfl (l' := #[vR a1, vI 0, vI (Int32.ofNat cs.length), vI 0, vI (Int32.ofNat q), vI ((Int32.ofNat i) + (1 : Int32))]) rfl ?_
 show SS p e below T0 m 58 #[vR a1, vI 0, vI (Int32.ofNat cs.length), vI 0, vI (Int32.ofNat q), vI ((Int32.ofNat i) + (1 : Int32))] [(.int (Int32.ofNat i)), (.ref a1)] _
 refine st101 _ ?_
 show SS p e below T101 m 61 #[vR a1, vI 0, vI (Int32.ofNat cs.length), vI 0, vI (Int32.ofNat q), vI ((Int32.ofNat i) + (1 : Int32))] [(.int (StrChars.pairCh (StrChars.lo8 (cs.getD i 0)) (StrChars.hi8 (cs.getD i 0))))] _
 rw [hr102]
 show SS p e below T101 m 61 #[vR a1, vI 0, vI (Int32.ofNat cs.length), vI 0, vI (Int32.ofNat q), vI (Int32.ofNat (i + 1))] [(.int (StrChars.pairCh (StrChars.lo8 (cs.getD i 0)) (StrChars.hi8 (cs.getD i 0))))] _
 rw [hr103]
 show SS p e below T101 m 61 #[vR a1, vI 0, vI (Int32.ofNat cs.length), vI 0, vI (Int32.ofNat q), vI (Int32.ofNat (i + 1))] [(.int (cs.getD i 0))] _
 refine st104 _ ?_
 refine XS.ifYes X104.here hx rfl (pc0 := 64) (pc' := 44) rfl (hb hby d23_64) rfl ((if0 _ _).trans (teq (hA : (hiS (cs.getD i 0)) = (0 : Int32))).1) (by decide) (by decide) ?_
 show SS p e below T104 m 44 #[vR a1, vI 0, vI (Int32.ofNat cs.length), vI 0, vI (Int32.ofNat q), vI (Int32.ofNat (i + 1))] [] _
 exact kt
theorem d23_67 : decode cD24 67 = .ok (.aload_n 0, 1) := by decide +kernel
theorem d23_68 : decode cD24 68 = .ok (.iload 5, 2) := by decide +kernel
theorem d23_70 : decode cD24 70 = .ok (.invokestatic 71, 3) := by decide +kernel
theorem d23_73 : decode cD24 73 = .ok (.invokestatic 81, 3) := by decide +kernel
theorem d23_76 : decode cD24 76 = .ok (.ifCond .eq (-32), 3) := by decide +kernel
set_option maxRecDepth 65536 in
set_option maxHeartbeats 40000000 in
theorem tnCpB {p : Program} {l : Launch} {e : Env} {s : State} {m : MethodId} {args : Array Value} {below : List Frame} {meth : Method} {c : Code} {T0 : State} {locs : List Loc} {Z : State} {a0 : Array Value} {h0 : Heap} {n0 : Nat} (a1 : Addr) (cs : List Int32) (k1 : ClassId) (i q : Nat)
  (X0 : Stand p l e (Rm 1 0 0 20) s m args below meth c T0 locs 0 0) (hx : p.tables.exec = Jvm.exec) (hZ : Z.Warmed39 s.vm) (hw : ∀ d ∈ tables_1, d.before a0 Z = true) (hby : c.code = jdk_52_method_11_code) (hml : c.maxLocals = 6) (hown : s.vm.findClass "java/lang/StringUTF16" = some m.cls) (e0 : T0.heap = h0) (O0 : Old Z n0 h0) (N0 : Fr n0 locs) (S_AD : SAD Z) (S_HI : SHI Z) (S_LO : SLO Z) (V1 : Arv Z h0 a1 k1 .byte (Int32.ofNat (2 * cs.length)) (u16 cs) (.int 0)) (hn : cs.length ≤ 257) (hcs : ∀ c ∈ cs, ¬ c < 0 ∧ ¬ (65535 : Int32) < c) (hi : i + 1 < cs.length) (hA : ¬ ((hiS (cs.getD i 0)) = (0 : Int32))) (hB : (loS (cs.getD (i + 1) 0)) = (0 : Int32)) :
  ∃ (T' : State) (h' : Heap) (L' : List Loc), Stand p l e (Rm 1 0 0 20) s m args below meth c T' L' 0 0 ∧ T'.heap = h' ∧ Fr n0 L' ∧ h' = h0 ∧ ∀ target, SS p e below T' m 44 #[vR a1, vI 0, vI (Int32.ofNat cs.length), vI 0, vI (Int32.ofNat q), vI (Int32.ofNat (i + 1))] [] target → SS p e below T0 m 44 #[vR a1, vI 0, vI (Int32.ofNat cs.length), vI 0, vI (Int32.ofNat q), vI (Int32.ofNat i)] [] target := by
 have hn0 : n0 ≤ h0.size := O0.1 ▸ O0.2.1
 have pre0 : ∀ t, SS p e below T0 m 44 #[vR a1, vI 0, vI (Int32.ofNat cs.length), vI 0, vI (Int32.ofNat q), vI (Int32.ofNat i)] [] t → SS p e below T0 m 44 #[vR a1, vI 0, vI (Int32.ofNat cs.length), vI 0, vI (Int32.ofNat q), vI (Int32.ofNat i)] [] t := fun t k => k
 have hn31 : cs.length < 2 ^ 31 := by omega
 obtain ⟨_, _, ⟨T101, L101, k101, n101⟩, -, X101, ⟨Lc101, hQ101, l101, y101, z101⟩, st101⟩ := Jvm.LawKit.callS X0 hx (y := mN0) hown (mvT hZ (tw hw 64 rfl)) (mvT hZ (tw hw 65 rfl)) (mvT hZ (tw hw 43 rfl)) (mvT hZ (tw hw 66 rfl)) (by decide) (backOf (W := 0) (rmGetChar l Z a0 hw [] a1 i k1 (Int32.ofNat (2 * cs.length)) (u16 cs) ((cs.getD i 0).toInt8.toInt32) (((cs.getD i 0) >>> ((8 : Int32) &&& 31)).toInt8.toInt32) h0 n0 O0 S_AD S_HI S_LO V1 (by omega) ((own_lt (by omega) (by omega)).mpr (by omega)) ((own_lt (by omega) (by omega)).mpr (by omega)) (u16_get cs (by omega : i < cs.length)).1 (u16_get cs (by omega : i < cs.length)).2) hZ (tw hw 66 rfl) (tw hw 43 rfl) (by decide) (by decide)) (g := (mkF m 58 #[vR a1, vI 0, vI (Int32.ofNat cs.length), vI 0, vI (Int32.ofNat q), vI ((Int32.ofNat i) + (1 : Int32))] [(.int (Int32.ofNat i)), (.ref a1)])) rfl (by rw [hml]; rfl) (argsL := [(.ref a1), (.int (Int32.ofNat i))]) (rest := []) (lenOf pd_12 rfl) rfl (by show 2 * 0 + _ ≤ _; exact Nat.le_of_eq rfl) (hb hby d23_58) (fun _ _ => ⟨rfl, e0, (by decide : 0 + 0 ≤ _), (by decide : 0 + 0 ≤ _)⟩)
 dsimp only [Pt.U, Pt.locs, Pt.cells, Pt.slots] at X101 l101 y101 z101 st101 hQ101
 subst l101 y101 z101
 obtain ⟨rfl, N101q, H101⟩ := hQ101
 have N101 := Fr.app N0 N101q
 have hr102 : ((Int32.ofNat i) + (1 : Int32)) = (Int32.ofNat (i + 1)) := own_succ i
 have hr103 : (StrChars.pairCh (StrChars.lo8 (cs.getD i 0)) (StrChars.hi8 (cs.getD i 0))) = (cs.getD i 0) := StrChars.pair_says (own_rng hcs (by omega : i < cs.length)).1 (own_rng hcs (by omega : i < cs.length)).2
 obtain ⟨_, _, ⟨T104, L104, k104, n104⟩, -, X104, ⟨Lc104, hQ104, l104, y104, z104⟩, st104⟩ := Jvm.LawKit.callS X101 hx (y := mN13) hown (mvT hZ (tw hw 105 rfl)) (mvT hZ (tw hw 106 rfl)) (mvT hZ (tw hw 107 rfl)) (mvT hZ (tw hw 108 rfl)) (by decide) (backOf (W := 0) (rmisHighSurrogate l Z a0 hw [] (cs.getD i 0)  h0 n0 O0 ) hZ (tw hw 108 rfl) (tw hw 107 rfl) (by decide) (by decide)) (g := (mkF m 61 #[vR a1, vI 0, vI (Int32.ofNat cs.length), vI 0, vI (Int32.ofNat q), vI (Int32.ofNat (i + 1))] [(.int (cs.getD i 0))])) rfl (by rw [hml]; rfl) (argsL := [(.int (cs.getD i 0))]) (rest := []) (lenOf pd_21 rfl) rfl (by show 2 * 0 + _ ≤ _; exact Nat.le_of_eq rfl) (hb hby d23_61) (fun _ _ => ⟨rfl, H101, (by decide : 0 + 0 ≤ _), (by decide : 0 + 0 ≤ _)⟩)
 dsimp only [Pt.U, Pt.locs, Pt.cells, Pt.slots] at X104 l104 y104 z104 st104 hQ104
 subst l104 y104 z104
 obtain ⟨rfl, N104q, H104⟩ := hQ104
 have N104 := Fr.app N101 N104q
 obtain ⟨_, _, ⟨T105, L105, k105, n105⟩, -, X105, ⟨Lc105, hQ105, l105, y105, z105⟩, st105⟩ := Jvm.LawKit.callS X104 hx (y := mN0) hown (mvT hZ (tw hw 64 rfl)) (mvT hZ (tw hw 65 rfl)) (mvT hZ (tw hw 43 rfl)) (mvT hZ (tw hw 66 rfl)) (by decide) (backOf (W := 0) (rmGetChar l Z a0 hw [] a1 (i + 1) k1 (Int32.ofNat (2 * cs.length)) (u16 cs) ((cs.getD (i + 1) 0).toInt8.toInt32) (((cs.getD (i + 1) 0) >>> ((8 : Int32) &&& 31)).toInt8.toInt32) h0 n0 O0 S_AD S_HI S_LO V1 (by omega) ((own_lt (by omega) (by omega)).mpr (by omega)) ((own_lt (by omega) (by omega)).mpr (by omega)) (u16_get cs hi).1 (u16_get cs hi).2) hZ (tw hw 66 rfl) (tw hw 43 rfl) (by decide) (by decide)) (g := (mkF m 70 #[vR a1, vI 0, vI (Int32.ofNat cs.length), vI 0, vI (Int32.ofNat q), vI (Int32.ofNat (i + 1))] [(.int (Int32.ofNat (i + 1))), (.ref a1)])) rfl (by rw [hml]; rfl) (argsL := [(.ref a1), (.int (Int32.ofNat (i + 1)))]) (rest := []) (lenOf pd_12 rfl) rfl (by show 2 * 0 + _ ≤ _; exact Nat.le_of_eq rfl) (hb hby d23_70) (fun _ _ => ⟨rfl, H104, (by decide : 0 + 0 ≤ _), (by decide : 0 + 0 ≤ _)⟩)
 dsimp only [Pt.U, Pt.locs, Pt.cells, Pt.slots] at X105 l105 y105 z105 st105 hQ105
 subst l105 y105 z105
 obtain ⟨rfl, N105q, H105⟩ := hQ105
 have N105 := Fr.app N104 N105q
 have hr106 : (StrChars.pairCh (StrChars.lo8 (cs.getD (i + 1) 0)) (StrChars.hi8 (cs.getD (i + 1) 0))) = (cs.getD (i + 1) 0) := StrChars.pair_says (own_rng hcs hi).1 (own_rng hcs hi).2
 obtain ⟨_, _, ⟨T107, L107, k107, n107⟩, -, X107, ⟨Lc107, hQ107, l107, y107, z107⟩, st107⟩ := Jvm.LawKit.callS X105 hx (y := mN14) hown (mvT hZ (tw hw 157 rfl)) (mvT hZ (tw hw 158 rfl)) (mvT hZ (tw hw 107 rfl)) (mvT hZ (tw hw 159 rfl)) (by decide) (backOf (W := 0) (rmisLowSurrogate l Z a0 hw [] (cs.getD (i + 1) 0)  h0 n0 O0 ) hZ (tw hw 159 rfl) (tw hw 107 rfl) (by decide) (by decide)) (g := (mkF m 73 #[vR a1, vI 0, vI (Int32.ofNat cs.length), vI 0, vI (Int32.ofNat q), vI (Int32.ofNat (i + 1))] [(.int (cs.getD (i + 1) 0))])) rfl (by rw [hml]; rfl) (argsL := [(.int (cs.getD (i + 1) 0))]) (rest := []) (lenOf pd_21 rfl) rfl (by show 2 * 0 + _ ≤ _; exact Nat.le_of_eq rfl) (hb hby d23_73) (fun _ _ => ⟨rfl, H105, (by decide : 0 + 0 ≤ _), (by decide : 0 + 0 ≤ _)⟩)
 dsimp only [Pt.U, Pt.locs, Pt.cells, Pt.slots] at X107 l107 y107 z107 st107 hQ107
 subst l107 y107 z107
 obtain ⟨rfl, N107q, H107⟩ := hQ107
 have N107 := Fr.app N105 N107q
 refine ⟨T107, h0, _, X107, H107, N107, rfl, fun target kt => pre0 _ ?_⟩
 show SS p e below T0 m 44 #[vR a1, vI 0, vI (Int32.ofNat cs.length), vI 0, vI (Int32.ofNat q), vI (Int32.ofNat i)] [] _
 refine XS.iload X0.here hx rfl (hb hby d23_44) rfl ?_
 refine XS.iloadN X0.here hx rfl (hb hby d23_46) rfl ?_
 refine XS.iconst X0.here hx rfl (hb hby d23_47) ?_
 refine XS.isub X0.here hx rfl (hb hby d23_48) rfl ?_
 refine XS.icmpNo X0.here hx rfl (hb hby d23_49) rfl (tlt (own_lt1 (by omega) hi : (Int32.ofNat i) < ((Int32.ofNat cs.length) - (1 : Int32)))).2.1 ?_
 refine XS.aloadN X0.here hx rfl (hb hby d23_52) rfl rfl ?_
 refine XS.iload X0.here hx rfl (hb hby d23_53) rfl ?_
 refine XS.iinc X0.here hx rfl (hb hby d23_55) rfl (l' := #[vR a1, vI 0, vI (Int32.ofNat cs.length), vI 0, vI (Int32.ofNat q), vI ((Int32.ofNat i) + (1 : Int32))]) rfl ?_
 show SS p e below T0 m 58 #[vR a1, vI 0, vI (Int32.ofNat cs.length), vI 0, vI (Int32.ofNat q), vI ((Int32.ofNat i) + (1 : Int32))] [(.int (Int32.ofNat i)), (.ref a1)] _
 refine st101 _ ?_
 show SS p e below T101 m 61 #[vR a1, vI 0, vI (Int32.ofNat cs.length), vI 0, vI (Int32.ofNat q), vI ((Int32.ofNat i) + (1 : Int32))] [(.int (StrChars.pairCh (StrChars.lo8 (cs.getD i 0)) (StrChars.hi8 (cs.getD i 0))))] _
 rw [hr102]
 show SS p e below T101 m 61 #[vR a1, vI 0, vI (Int32.ofNat cs.length), vI 0, vI (Int32.ofNat q), vI (Int32.ofNat (i + 1))] [(.int (StrChars.pairCh (StrChars.lo8 (cs.getD i 0)) (StrChars.hi8 (cs.getD i 0))))] _
 rw [hr103]
 show SS p e below T101 m 61 #[vR a1, vI 0, vI (Int32.ofNat cs.length), vI 0, vI (Int32.ofNat q), vI (Int32.ofNat (i + 1))] [(.int (cs.getD i 0))] _
 refine st104 _ ?_
 refine XS.ifNo X104.here hx rfl (hb hby d23_64) rfl ((if0 _ _).trans (feq (hA : ¬ ((hiS (cs.getD i 0)) = (0 : Int32)))).1) ?_
 refine XS.aloadN X104.here hx rfl (hb hby d23_67) rfl rfl ?_
 refine XS.iload X104.here hx rfl (hb hby d23_68) rfl ?_
 show SS p e below T104 m 70 #[vR a1, vI 0, vI (Int32.ofNat cs.length), vI 0, vI (Int32.ofNat q), vI (Int32.ofNat (i + 1))] [(.int (Int32.ofNat (i + 1))), (.ref a1)] _
 refine st105 _ ?_
 show SS p e below T105 m 73 #[vR a1, vI 0, vI (Int32.ofNat cs.length), vI 0, vI (Int32.ofNat q), vI (Int32.ofNat (i + 1))] [(.int (StrChars.pairCh (StrChars.lo8 (cs.getD (i + 1) 0)) (StrChars.hi8 (cs.getD (i + 1) 0))))] _
 rw [hr106]
 show SS p e below T105 m 73 #[vR a1, vI 0, vI (Int32.ofNat cs.length), vI 0, vI (Int32.ofNat q), vI (Int32.ofNat (i + 1))] [(.int (cs.getD (i + 1) 0))] _
 refine st107 _ ?_
 refine XS.ifYes X107.here hx rfl (pc0 := 76) (pc' := 44) rfl (hb hby d23_76) rfl ((if0 _ _).trans (teq (hB : (loS (cs.getD (i + 1) 0)) = (0 : Int32))).1) (by decide) (by decide) ?_
 show SS p e below T107 m 44 #[vR a1, vI 0, vI (Int32.ofNat cs.length), vI 0, vI (Int32.ofNat q), vI (Int32.ofNat (i + 1))] [] _
 exact kt
theorem d23_79 : decode cD24 79 = .ok (.iinc 4 (-1), 3) := by decide +kernel
theorem d23_82 : decode cD24 82 = .ok (.iinc 5 1, 3) := by decide +kernel
theorem d23_85 : decode cD24 85 = .ok (.goto (-41), 3) := by decide +kernel
set_option maxRecDepth 65536 in
set_option maxHeartbeats 40000000 in
theorem tnCpC {p : Program} {l : Launch} {e : Env} {s : State} {m : MethodId} {args : Array Value} {below : List Frame} {meth : Method} {c : Code} {T0 : State} {locs : List Loc} {Z : State} {a0 : Array Value} {h0 : Heap} {n0 : Nat} (a1 : Addr) (cs : List Int32) (k1 : ClassId) (i q : Nat)
  (X0 : Stand p l e (Rm 1 0 0 20) s m args below meth c T0 locs 0 0) (hx : p.tables.exec = Jvm.exec) (hZ : Z.Warmed39 s.vm) (hw : ∀ d ∈ tables_1, d.before a0 Z = true) (hby : c.code = jdk_52_method_11_code) (hml : c.maxLocals = 6) (hown : s.vm.findClass "java/lang/StringUTF16" = some m.cls) (e0 : T0.heap = h0) (O0 : Old Z n0 h0) (N0 : Fr n0 locs) (S_AD : SAD Z) (S_HI : SHI Z) (S_LO : SLO Z) (V1 : Arv Z h0 a1 k1 .byte (Int32.ofNat (2 * cs.length)) (u16 cs) (.int 0)) (hn : cs.length ≤ 257) (hcs : ∀ c ∈ cs, ¬ c < 0 ∧ ¬ (65535 : Int32) < c) (hi : i + 1 < cs.length) (hA : ¬ ((hiS (cs.getD i 0)) = (0 : Int32))) (hB : ¬ ((loS (cs.getD (i + 1) 0)) = (0 : Int32))) (hq : 1 ≤ q) :
  ∃ (T' : State) (h' : Heap) (L' : List Loc), Stand p l e (Rm 1 0 0 20) s m args below meth c T' L' 0 0 ∧ T'.heap = h' ∧ Fr n0 L' ∧ h' = h0 ∧ ∀ target, SS p e below T' m 44 #[vR a1, vI 0, vI (Int32.ofNat cs.length), vI 0, vI (Int32.ofNat (q - 1)), vI (Int32.ofNat (i + 2))] [] target → SS p e below T0 m 44 #[vR a1, vI 0, vI (Int32.ofNat cs.length), vI 0, vI (Int32.ofNat q), vI (Int32.ofNat i)] [] target := by
 have hn0 : n0 ≤ h0.size := O0.1 ▸ O0.2.1
 have pre0 : ∀ t, SS p e below T0 m 44 #[vR a1, vI 0, vI (Int32.ofNat cs.length), vI 0, vI (Int32.ofNat q), vI (Int32.ofNat i)] [] t → SS p e below T0 m 44 #[vR a1, vI 0, vI (Int32.ofNat cs.length), vI 0, vI (Int32.ofNat q), vI (Int32.ofNat i)] [] t := fun t k => k
 have hn31 : cs.length < 2 ^ 31 := by omega
 obtain ⟨_, _, ⟨T101, L101, k101, n101⟩, -, X101, ⟨Lc101, hQ101, l101, y101, z101⟩, st101⟩ := Jvm.LawKit.callS X0 hx (y := mN0) hown (mvT hZ (tw hw 64 rfl)) (mvT hZ (tw hw 65 rfl)) (mvT hZ (tw hw 43 rfl)) (mvT hZ (tw hw 66 rfl)) (by decide) (backOf (W := 0) (rmGetChar l Z a0 hw [] a1 i k1 (Int32.ofNat (2 * cs.length)) (u16 cs) ((cs.getD i 0).toInt8.toInt32) (((cs.getD i 0) >>> ((8 : Int32) &&& 31)).toInt8.toInt32) h0 n0 O0 S_AD S_HI S_LO V1 (by omega) ((own_lt (by omega) (by omega)).mpr (by omega)) ((own_lt (by omega) (by omega)).mpr (by omega)) (u16_get cs (by omega : i < cs.length)).1 (u16_get cs (by omega : i < cs.length)).2) hZ (tw hw 66 rfl) (tw hw 43 rfl) (by decide) (by decide)) (g := (mkF m 58 #[vR a1, vI 0, vI (Int32.ofNat cs.length), vI 0, vI (Int32.ofNat q), vI ((Int32.ofNat i) + (1 : Int32))] [(.int (Int32.ofNat i)), (.ref a1)])) rfl (by rw [hml]; rfl) (argsL := [(.ref a1), (.int (Int32.ofNat i))]) (rest := []) (lenOf pd_12 rfl) rfl (by show 2 * 0 + _ ≤ _; exact Nat.le_of_eq rfl) (hb hby d23_58) (fun _ _ => ⟨rfl, e0, (by decide : 0 + 0 ≤ _), (by decide : 0 + 0 ≤ _)⟩)
 dsimp only [Pt.U, Pt.locs, Pt.cells, Pt.slots] at X101 l101 y101 z101 st101 hQ101
 subst l101 y101 z101
 obtain ⟨rfl, N101q, H101⟩ := hQ101
 have N101 := Fr.app N0 N101q
 have hr102 : ((Int32.ofNat i) + (1 : Int32)) = (Int32.ofNat (i + 1)) := own_succ i
 have hr103 : (StrChars.pairCh (StrChars.lo8 (cs.getD i 0)) (StrChars.hi8 (cs.getD i 0))) = (cs.getD i 0) := StrChars.pair_says (own_rng hcs (by omega : i < cs.length)).1 (own_rng hcs (by omega : i < cs.length)).2
 obtain ⟨_, _, ⟨T104, L104, k104, n104⟩, -, X104, ⟨Lc104, hQ104, l104, y104, z104⟩, st104⟩ := Jvm.LawKit.callS X101 hx (y := mN13) hown (mvT hZ (tw hw 105 rfl)) (mvT hZ (tw hw 106 rfl)) (mvT hZ (tw hw 107 rfl)) (mvT hZ (tw hw 108 rfl)) (by decide) (backOf (W := 0) (rmisHighSurrogate l Z a0 hw [] (cs.getD i 0)  h0 n0 O0 ) hZ (tw hw 108 rfl) (tw hw 107 rfl) (by decide) (by decide)) (g := (mkF m 61 #[vR a1, vI 0, vI (Int32.ofNat cs.length), vI 0, vI (Int32.ofNat q), vI (Int32.ofNat (i + 1))] [(.int (cs.getD i 0))])) rfl (by rw [hml]; rfl) (argsL := [(.int (cs.getD i 0))]) (rest := []) (lenOf pd_21 rfl) rfl (by show 2 * 0 + _ ≤ _; exact Nat.le_of_eq rfl) (hb hby d23_61) (fun _ _ => ⟨rfl, H101, (by decide : 0 + 0 ≤ _), (by decide : 0 + 0 ≤ _)⟩)
 dsimp only [Pt.U, Pt.locs, Pt.cells, Pt.slots] at X104 l104 y104 z104 st104 hQ104
 subst l104 y104 z104
 obtain ⟨rfl, N104q, H104⟩ := hQ104
 have N104 := Fr.app N101 N104q
 obtain ⟨_, _, ⟨T105, L105, k105, n105⟩, -, X105, ⟨Lc105, hQ105, l105, y105, z105⟩, st105⟩ := Jvm.LawKit.callS X104 hx (y := mN0) hown (mvT hZ (tw hw 64 rfl)) (mvT hZ (tw hw 65 rfl)) (mvT hZ (tw hw 43 rfl)) (mvT hZ (tw hw 66 rfl)) (by decide) (backOf (W := 0) (rmGetChar l Z a0 hw [] a1 (i + 1) k1 (Int32.ofNat (2 * cs.length)) (u16 cs) ((cs.getD (i + 1) 0).toInt8.toInt32) (((cs.getD (i + 1) 0) >>> ((8 : Int32) &&& 31)).toInt8.toInt32) h0 n0 O0 S_AD S_HI S_LO V1 (by omega) ((own_lt (by omega) (by omega)).mpr (by omega)) ((own_lt (by omega) (by omega)).mpr (by omega)) (u16_get cs hi).1 (u16_get cs hi).2) hZ (tw hw 66 rfl) (tw hw 43 rfl) (by decide) (by decide)) (g := (mkF m 70 #[vR a1, vI 0, vI (Int32.ofNat cs.length), vI 0, vI (Int32.ofNat q), vI (Int32.ofNat (i + 1))] [(.int (Int32.ofNat (i + 1))), (.ref a1)])) rfl (by rw [hml]; rfl) (argsL := [(.ref a1), (.int (Int32.ofNat (i + 1)))]) (rest := []) (lenOf pd_12 rfl) rfl (by show 2 * 0 + _ ≤ _; exact Nat.le_of_eq rfl) (hb hby d23_70) (fun _ _ => ⟨rfl, H104, (by decide : 0 + 0 ≤ _), (by decide : 0 + 0 ≤ _)⟩)
 dsimp only [Pt.U, Pt.locs, Pt.cells, Pt.slots] at X105 l105 y105 z105 st105 hQ105
 subst l105 y105 z105
 obtain ⟨rfl, N105q, H105⟩ := hQ105
 have N105 := Fr.app N104 N105q
 have hr106 : (StrChars.pairCh (StrChars.lo8 (cs.getD (i + 1) 0)) (StrChars.hi8 (cs.getD (i + 1) 0))) = (cs.getD (i + 1) 0) := StrChars.pair_says (own_rng hcs hi).1 (own_rng hcs hi).2
 obtain ⟨_, _, ⟨T107, L107, k107, n107⟩, -, X107, ⟨Lc107, hQ107, l107, y107, z107⟩, st107⟩ := Jvm.LawKit.callS X105 hx (y := mN14) hown (mvT hZ (tw hw 157 rfl)) (mvT hZ (tw hw 158 rfl)) (mvT hZ (tw hw 107 rfl)) (mvT hZ (tw hw 159 rfl)) (by decide) (backOf (W := 0) (rmisLowSurrogate l Z a0 hw [] (cs.getD (i + 1) 0)  h0 n0 O0 ) hZ (tw hw 159 rfl) (tw hw 107 rfl) (by decide) (by decide)) (g := (mkF m 73 #[vR a1, vI 0, vI (Int32.ofNat cs.length), vI 0, vI (Int32.ofNat q), vI (Int32.ofNat (i + 1))] [(.int (cs.getD (i + 1) 0))])) rfl (by rw [hml]; rfl) (argsL := [(.int (cs.getD (i + 1) 0))]) (rest := []) (lenOf pd_21 rfl) rfl (by show 2 * 0 + _ ≤ _; exact Nat.le_of_eq rfl) (hb hby d23_73) (fun _ _ => ⟨rfl, H105, (by decide : 0 + 0 ≤ _), (by decide : 0 + 0 ≤ _)⟩)
 dsimp only [Pt.U, Pt.locs, Pt.cells, Pt.slots] at X107 l107 y107 z107 st107 hQ107
 subst l107 y107 z107
 obtain ⟨rfl, N107q, H107⟩ := hQ107
 have N107 := Fr.app N105 N107q
 refine ⟨T107, h0, _, X107, H107, N107, rfl, fun target kt => pre0 _ ?_⟩
 show SS p e below T0 m 44 #[vR a1, vI 0, vI (Int32.ofNat cs.length), vI 0, vI (Int32.ofNat q), vI (Int32.ofNat i)] [] _
 refine XS.iload X0.here hx rfl (hb hby d23_44) rfl ?_
 refine XS.iloadN X0.here hx rfl (hb hby d23_46) rfl ?_
 refine XS.iconst X0.here hx rfl (hb hby d23_47) ?_
 refine XS.isub X0.here hx rfl (hb hby d23_48) rfl ?_
 refine XS.icmpNo X0.here hx rfl (hb hby d23_49) rfl (tlt (own_lt1 (by omega) hi : (Int32.ofNat i) < ((Int32.ofNat cs.length) - (1 : Int32)))).2.1 ?_
 refine XS.aloadN X0.here hx rfl (hb hby d23_52) rfl rfl ?_
 refine XS.iload X0.here hx rfl (hb hby d23_53) rfl ?_
 refine XS.iinc X0.here hx rfl (hb hby d23_55) rfl (l' := #[vR a1, vI 0, vI (Int32.ofNat cs.length), vI 0, vI (Int32.ofNat q), vI ((Int32.ofNat i) + (1 : Int32))]) rfl ?_
 show SS p e below T0 m 58 #[vR a1, vI 0, vI (Int32.ofNat cs.length), vI 0, vI (Int32.ofNat q), vI ((Int32.ofNat i) + (1 : Int32))] [(.int (Int32.ofNat i)), (.ref a1)] _
 refine st101 _ ?_
 show SS p e below T101 m 61 #[vR a1, vI 0, vI (Int32.ofNat cs.length), vI 0, vI (Int32.ofNat q), vI ((Int32.ofNat i) + (1 : Int32))] [(.int (StrChars.pairCh (StrChars.lo8 (cs.getD i 0)) (StrChars.hi8 (cs.getD i 0))))] _
 rw [hr102]
 show SS p e below T101 m 61 #[vR a1, vI 0, vI (Int32.ofNat cs.length), vI 0, vI (Int32.ofNat q), vI (Int32.ofNat (i + 1))] [(.int (StrChars.pairCh (StrChars.lo8 (cs.getD i 0)) (StrChars.hi8 (cs.getD i 0))))] _
 rw [hr103]
 show SS p e below T101 m 61 #[vR a1, vI 0, vI (Int32.ofNat cs.length), vI 0, vI (Int32.ofNat q), vI (Int32.ofNat (i + 1))] [(.int (cs.getD i 0))] _
 refine st104 _ ?_
 refine XS.ifNo X104.here hx rfl (hb hby d23_64) rfl ((if0 _ _).trans (feq (hA : ¬ ((hiS (cs.getD i 0)) = (0 : Int32)))).1) ?_
 refine XS.aloadN X104.here hx rfl (hb hby d23_67) rfl rfl ?_
 refine XS.iload X104.here hx rfl (hb hby d23_68) rfl ?_
 show SS p e below T104 m 70 #[vR a1, vI 0, vI (Int32.ofNat cs.length), vI 0, vI (Int32.ofNat q), vI (Int32.ofNat (i + 1))] [(.int (Int32.ofNat (i + 1))), (.ref a1)] _
 refine st105 _ ?_
 show SS p e below T105 m 73 #[vR a1, vI 0, vI (Int32.ofNat cs.length), vI 0, vI (Int32.ofNat q), vI (Int32.ofNat (i + 1))] [(.int (StrChars.pairCh (StrChars.lo8 (cs.getD (i + 1) 0)) (StrChars.hi8 (cs.getD (i + 1) 0))))] _
 rw [hr106]
 show SS p e below T105 m 73 #[vR a1, vI 0, vI (Int32.ofNat cs.length), vI 0, vI (Int32.ofNat q), vI (Int32.ofNat (i + 1))] [(.int (cs.getD (i + 1) 0))] _
 refine st107 _ ?_
 refine XS.ifNo X107.here hx rfl (hb hby d23_76) rfl ((if0 _ _).trans (feq (hB : ¬ ((loS (cs.getD (i + 1) 0)) = (0 : Int32)))).1) ?_
 refine XS.iinc X107.here hx rfl (hb hby d23_79) rfl (l' := #[vR a1, vI 0, vI (Int32.ofNat cs.length), vI 0, vI ((Int32.ofNat q) + (-1 : Int32)), vI (Int32.ofNat (i + 1))]) rfl ?_
 refine XS.iinc X107.here hx rfl (hb hby d23_82) rfl (l' := #[vR a1, vI 0, vI (Int32.ofNat cs.length), vI 0, vI ((Int32.ofNat q) + (-1 : Int32)), vI ((Int32.ofNat (i + 1)) + (1 : Int32))]) rfl ?_
 refine XS.goto X107.here hx rfl (pc0 := 85) (pc' := 44) rfl (hb hby d23_85) (by decide) (by decide) ?_
 show SS p e below T107 m 44 #[vR a1, vI 0, vI (Int32.ofNat cs.length), vI 0, vI ((Int32.ofNat q) + (-1 : Int32)), vI ((Int32.ofNat (i + 1)) + (1 : Int32))] [] _
 rw [own_pred hq, own_succ (i + 1)]
 exact kt
theorem lpCp {p : Program} {l : Launch} {e : Env} {s : State} {m : MethodId} {args : Array Value} {below : List Frame} {meth : Method} {c : Code} {Z : State} {a0 : Array Value} {h0 : Heap} {n0 : Nat} (a1 : Addr) (cs : List Int32) (k1 : ClassId) (hx : p.tables.exec = Jvm.exec) (hZ : Z.Warmed39 s.vm) (hw : ∀ d ∈ tables_1, d.before a0 Z = true) (hby : c.code = jdk_52_method_11_code) (hml : c.maxLocals = 6) (hown : s.vm.findClass "java/lang/StringUTF16" = some m.cls) (O0 : Old Z n0 h0) (S_AD : SAD Z) (S_HI : SHI Z) (S_LO : SLO Z) (V1 : Arv Z h0 a1 k1 .byte (Int32.ofNat (2 * cs.length)) (u16 cs) (.int 0)) (hn : cs.length ≤ 257) (hcs : ∀ c ∈ cs, ¬ c < 0 ∧ ¬ (65535 : Int32) < c) (k : Nat) : ∀ (T0 : State) (locs : List Loc) (i q : Nat), Stand p l e (Rm 1 0 0 20) s m args below meth c T0 locs 0 0 → T0.heap = h0 → Fr n0 locs → i ≤ cs.length → cs.length - i ≤ k → prs (cs.drop i) ≤ q →
  ∃ (T' : State) (L' : List Loc) (i1 : Nat), Stand p l e (Rm 1 0 0 20) s m args below meth c T' L' 0 0 ∧ T'.heap = h0 ∧ Fr n0 L' ∧ i1 ≤ cs.length ∧ ¬ (i1 + 1 < cs.length) ∧ ∀ target, SS p e below T' m 44 #[vR a1, vI 0, vI (Int32.ofNat cs.length), vI 0, vI (Int32.ofNat (q - prs (cs.drop i))), vI (Int32.ofNat i1)] [] target → SS p e below T0 m 44 #[vR a1, vI 0, vI (Int32.ofNat cs.length), vI 0, vI (Int32.ofNat q), vI (Int32.ofNat i)] [] target := by
 induction k with
 | zero =>
  intro T0 locs i q X0 e0 N0 hi hk hq
  have e : prs (cs.drop i) = 0 := prs_short (by rw [List.length_drop]; omega)
  rw [e]; exact ⟨T0, locs, i, X0, e0, N0, hi, by omega, fun _ k => k⟩
 | succ k ih =>
  intro T0 locs i q X0 e0 N0 hi hk hq
  by_cases h1 : i + 1 < cs.length
  ·have e := prs_drop cs h1
   by_cases hA : hiS (cs.getD i 0) = 0
   ·obtain ⟨T2, h2, L2, X2, e2, N2, rfl, st2⟩ := tnCpA a1 cs k1 i q X0 hx hZ hw hby hml hown e0 O0 N0 S_AD S_HI S_LO V1 hn hcs h1 hA
    rw [if_neg (fun z => by rw [hA] at z; exact absurd z.1 (by decide))] at e
    obtain ⟨T3, L3, i1, X3, e3, N3, g1, g2, st3⟩ := ih T2 L2 (i + 1) q X2 e2 N2 (by omega) (by omega) (by omega)
    rw [e]; exact ⟨T3, L3, i1, X3, e3, N3, g1, g2, fun t k => st2 _ (st3 _ k)⟩
   ·by_cases hB : loS (cs.getD (i + 1) 0) = 0
    ·obtain ⟨T2, h2, L2, X2, e2, N2, rfl, st2⟩ := tnCpB a1 cs k1 i q X0 hx hZ hw hby hml hown e0 O0 N0 S_AD S_HI S_LO V1 hn hcs h1 hA hB
     rw [if_neg (fun z => by rw [hB] at z; exact absurd z.2 (by decide))] at e
     obtain ⟨T3, L3, i1, X3, e3, N3, g1, g2, st3⟩ := ih T2 L2 (i + 1) q X2 e2 N2 (by omega) (by omega) (by omega)
     rw [e]; exact ⟨T3, L3, i1, X3, e3, N3, g1, g2, fun t k => st2 _ (st3 _ k)⟩
    ·rw [if_pos ⟨hiS_one hA, loS_one hB⟩] at e
     obtain ⟨T2, h2, L2, X2, e2, N2, rfl, st2⟩ := tnCpC a1 cs k1 i q X0 hx hZ hw hby hml hown e0 O0 N0 S_AD S_HI S_LO V1 hn hcs h1 hA hB (by omega)
     obtain ⟨T3, L3, i1, X3, e3, N3, g1, g2, st3⟩ := ih T2 L2 (i + 2) (q - 1) X2 e2 N2 (by omega) (by omega) (by omega)
     have eq : q - prs (cs.drop i) = q - 1 - prs (cs.drop (i + 2)) := by omega
     rw [eq]; exact ⟨T3, L3, i1, X3, e3, N3, g1, g2, fun t k => st2 _ (st3 _ k)⟩
  ·have e : prs (cs.drop i) = 0 := prs_short (by rw [List.length_drop]; omega)
   rw [e]; exact ⟨T0, locs, i, X0, e0, N0, hi, by omega, fun _ k => k⟩
theorem d23_0 : decode cD24 0 = .ok (.getstatic 44, 3) := by decide +kernel
theorem d23_3 : decode cD24 3 = .ok (.ifCond .ne 16, 3) := by decide +kernel
theorem d23_19 : decode cD24 19 = .ok (.iload_n 2, 1) := by decide +kernel
theorem d23_20 : decode cD24 20 = .ok (.iload_n 1, 1) := by decide +kernel
theorem d23_21 : decode cD24 21 = .ok (.isub, 1) := by decide +kernel
theorem d23_22 : decode cD24 22 = .ok (.istore 4, 2) := by decide +kernel
theorem d23_24 : decode cD24 24 = .ok (.iload_n 1, 1) := by decide +kernel
theorem d23_25 : decode cD24 25 = .ok (.istore 5, 2) := by decide +kernel
theorem d23_27 : decode cD24 27 = .ok (.iload_n 3, 1) := by decide +kernel
theorem d23_28 : decode cD24 28 = .ok (.ifCond .eq 16, 3) := by decide +kernel
theorem d23_88 : decode cD24 88 = .ok (.iload 4, 2) := by decide +kernel
theorem d23_90 : decode cD24 90 = .ok (.ireturn, 1) := by decide +kernel
theorem pn_23 : plainName "java/lang/StringUTF16" = true := by first | (simp [plainName, overriddenIn]; done) | decide +kernel
theorem ef_rmCpz (m : MethodId) (y0 : Addr) (y1 : Int32) : entryFrame m #[(.ref y0), (.int 0), (.int y1), (.int 0)] 6 = (mkF m 0 #[vR y0, vI 0, vI y1, vI 0, .unset, .unset] []) := by first | (simp [entryFrame, mkF, argsToLocals, Value.category]; done) | rfl
def Q_rmCpz (Z : State) (a1 : Addr) (cs : List Int32) (k1 : ClassId) (h0 : Heap) (n0 : Nat) (v : Option Value) (h : Heap) (L : List Loc) : Prop := v = some (.int (Int32.ofNat (cs.length - prs cs))) ∧ Fr n0 L ∧ h = h0
set_option maxRecDepth 65536 in
set_option maxHeartbeats 40000000 in
theorem rmCpz (l : Launch) (Z : State) (a0 : Array Value) (hw : ∀ d ∈ tables_1, d.before a0 Z = true) (ws : List Jvm.Cond) (a1 : Addr) (cs : List Int32) (k1 : ClassId) (h0 : Heap) (n0 : Nat) (O0 : Old Z n0 h0) (S_AD : SAD Z) (S_HI : SHI Z) (S_LO : SLO Z) (V1 : Arv Z h0 a1 k1 .byte (Int32.ofNat (2 * cs.length)) (u16 cs) (.int 0)) (hn : cs.length ≤ 257) (hcs : ∀ c ∈ cs, ¬ c < 0 ∧ ¬ (65535 : Int32) < c) (h0n : 0 < cs.length) :
  MetFree l mN24 (head1 (Jvm.Cond.code mN24 jdk_52_method_11_code 6 (some .int) :: ws) (Rm 1 0 0 20)) (fun a U => a = #[(.ref a1), (.int 0), (.int (Int32.ofNat cs.length)), (.int 0)] ∧ Z.Warmed39 U.vm ∧ U.heap = h0) (fun _ _ _ _ _ => True) (fun _ U o U' => ∃ v L, o = .returned v ∧ Q_rmCpz Z a1 cs k1 h0 n0 v U'.heap L ∧ FrameEnd U o U' L (Rm 1 0 0 20).cells (Rm 1 0 0 20).slots) := by
 refine MetFree.of_bodySF (plainFor_of_name pn_23) hisR ?_
 intro p e s m args below meth c s₁ Bd hml0 hP hK
 obtain ⟨rfl, hZ, hh⟩ := hP
 have hx := Bd.exec
 have hby := Bd.bytes
 have hml : c.maxLocals = 6 := hml0
 have hown : s.vm.findClass "java/lang/StringUTF16" = some m.cls := findClass_of_methodNamed Bd.named
 have hnm := (name_of_methodNamed Bd.named Bd.method).1
 have X0 : Stand p l e (Rm 1 0 0 20) s m #[(.ref a1), (.int 0), (.int (Int32.ofNat cs.length)), (.int 0)] below meth c s₁ [] 0 0 := Stand.of_body Bd
 have e0 : s₁.heap = h0 := by rw [← hh, Bd.state]; rfl
 have N0 := Fr.nil n0
 have hn0 : n0 ≤ h0.size := O0.1 ▸ O0.2.1
 have pre0 : ∀ t, SS p e below s₁ m 0 #[vR a1, vI 0, vI (Int32.ofNat cs.length), vI 0, .unset, .unset] [] t → Steps p.tables e below (s₁.setTop (entryFrame m #[(.ref a1), (.int 0), (.int (Int32.ofNat cs.length)), (.int 0)] 6)) t := fun t k => castTop (ef_rmCpz m a1 ((Int32.ofNat cs.length))) k
 have hn31 : cs.length < 2 ^ 31 := by omega
 obtain ⟨T101, X101, e101, st101⟩ := getS2 X0 hx hZ hown (host := "") (Or.inl (tw hw 61 rfl)) Via.refl e0 (Sta.ext O0.2 S_AD) (g := (mkF m 0 #[vR a1, vI 0, vI (Int32.ofNat cs.length), vI 0, .unset, .unset] [])) rfl (hb hby d23_0)
 have hr102 : ((Int32.ofNat cs.length) - (0 : Int32)) = (Int32.ofNat cs.length) := Int32.sub_zero _
 have pre103 : ∀ t, SS p e below T101 m 44 #[vR a1, vI 0, vI (Int32.ofNat cs.length), vI 0, vI (Int32.ofNat cs.length), vI 0] [] t → Steps p.tables e below (s₁.setTop (entryFrame m #[(.ref a1), (.int 0), (.int (Int32.ofNat cs.length)), (.int 0)] 6)) t := by
  intro t kt
  refine pre0 _ ?_
  show SS p e below s₁ m 0 #[vR a1, vI 0, vI (Int32.ofNat cs.length), vI 0, .unset, .unset] [] _
  refine st101 _ ?_
  refine XS.ifYes X101.here hx rfl (pc0 := 3) (pc' := 19) rfl (hb hby d23_3) rfl ((if0 _ _).trans (feq (by decide : ¬ ((1 : Int32) = (0 : Int32)))).2) (by decide) (by decide) ?_
  refine XS.iloadN X101.here hx rfl (hb hby d23_19) rfl ?_
  refine XS.iloadN X101.here hx rfl (hb hby d23_20) rfl ?_
  refine XS.isub X101.here hx rfl (hb hby d23_21) rfl ?_
  refine XS.istore X101.here hx rfl (hb hby d23_22) rfl (l' := #[vR a1, vI 0, vI (Int32.ofNat cs.length), vI 0, vI ((Int32.ofNat cs.length) - (0 : Int32)), .unset]) rfl ?_
  refine XS.iloadN X101.here hx rfl (hb hby d23_24) rfl ?_
  refine XS.istore X101.here hx rfl (hb hby d23_25) rfl (l' := #[vR a1, vI 0, vI (Int32.ofNat cs.length), vI 0, vI ((Int32.ofNat cs.length) - (0 : Int32)), vI 0]) rfl ?_
  refine XS.iloadN X101.here hx rfl (hb hby d23_27) rfl ?_
  refine XS.ifYes X101.here hx rfl (pc0 := 28) (pc' := 44) rfl (hb hby d23_28) rfl ((if0 _ _).trans (teq (by decide : (0 : Int32) = (0 : Int32))).1) (by decide) (by decide) ?_
  show SS p e below T101 m 44 #[vR a1, vI 0, vI (Int32.ofNat cs.length), vI 0, vI ((Int32.ofNat cs.length) - (0 : Int32)), vI 0] [] _
  rw [hr102]
  exact kt
 obtain ⟨T104, L104, i1, X104, e104, N104, gi1, gi2, st104⟩ := lpCp a1 cs k1 hx hZ hw hby hml hown O0 S_AD S_HI S_LO V1 hn hcs cs.length T101 _ 0 cs.length X101 e101 N0 (Nat.zero_le _) (by omega) (prs_le cs)
 obtain ⟨fs, hr, hrun, hended, hW, hsame⟩ := X104.leave (v := some (.int (Int32.ofNat (cs.length - prs cs)))) (fun h => by rw [Bd.returns] at h; cases h)
 refine ⟨_, _, pre103 _ ?_, hrun, hended, _, _, rfl, ?_, ⟨_, rfl⟩, hW, hsame.mono (by decide) (by decide)⟩
 ·skip
  refine st104 _ ?_
  show SS p e below T104 m 44 #[vR a1, vI 0, vI (Int32.ofNat cs.length), vI 0, vI (Int32.ofNat (cs.length - prs cs)), vI (Int32.ofNat i1)] [] _
  refine XS.iload X104.here hx rfl (hb hby d23_44) rfl ?_
  refine XS.iloadN X104.here hx rfl (hb hby d23_46) rfl ?_
  refine XS.iconst X104.here hx rfl (hb hby d23_47) ?_
  refine XS.isub X104.here hx rfl (hb hby d23_48) rfl ?_
  refine XS.icmpYes X104.here hx rfl (pc0 := 49) (pc' := 88) rfl (hb hby d23_49) rfl (flt (fun q => gi2 (own_lt1' (by omega) h0n hn31 q) : ¬ ((Int32.ofNat i1) < ((Int32.ofNat cs.length) - (1 : Int32))))).2.1 (by decide) (by decide) ?_
  refine XS.iload X104.here hx rfl (hb hby d23_88) rfl ?_
  show SS p e below T104 m 90 #[vR a1, vI 0, vI (Int32.ofNat cs.length), vI 0, vI (Int32.ofNat (cs.length - prs cs)), vI (Int32.ofNat i1)] [(.int (Int32.ofNat (cs.length - prs cs)))] _
  exact retI X104 hx Bd.returns (hb hby d23_90) hr
 ·show Q_rmCpz Z a1 cs k1 h0 n0 _ T104.heap _
  rw [e104]
  exact ⟨rfl, N104, rfl⟩
theorem d22_0 : decode cD25 0 = .ok (.aload_n 0, 1) := by decide +kernel
theorem d22_1 : decode cD25 1 = .ok (.iload_n 1, 1) := by decide +kernel
theorem d22_2 : decode cD25 2 = .ok (.iload_n 2, 1) := by decide +kernel
theorem d22_3 : decode cD25 3 = .ok (.iconst 0, 1) := by decide +kernel
theorem d22_4 : decode cD25 4 = .ok (.invokestatic 100, 3) := by decide +kernel
theorem d22_7 : decode cD25 7 = .ok (.ireturn, 1) := by decide +kernel
theorem pn_22 : plainName "java/lang/StringUTF16" = true := by first | (simp [plainName, overriddenIn]; done) | decide +kernel
theorem pd_20 : parseMethodDescriptor "([BIIZ)I" = some ⟨[(.array .byte), .int, .int, .boolean], some .int⟩ := by decide +kernel
theorem ef_rmCp3 (m : MethodId) (y0 : Addr) (y1 : Int32) : entryFrame m #[(.ref y0), (.int 0), (.int y1)] 3 = (mkF m 0 #[vR y0, vI 0, vI y1] []) := by first | (simp [entryFrame, mkF, argsToLocals, Value.category]; done) | rfl
def Q_rmCp3 (Z : State) (a1 : Addr) (cs : List Int32) (k1 : ClassId) (h0 : Heap) (n0 : Nat) (v : Option Value) (h : Heap) (L : List Loc) : Prop := v = some (.int (Int32.ofNat (cs.length - prs cs))) ∧ Fr n0 L ∧ h = h0
set_option maxRecDepth 65536 in
set_option maxHeartbeats 40000000 in
theorem rmCp3 (l : Launch) (Z : State) (a0 : Array Value) (hw : ∀ d ∈ tables_1, d.before a0 Z = true) (ws : List Jvm.Cond) (a1 : Addr) (cs : List Int32) (k1 : ClassId) (h0 : Heap) (n0 : Nat) (O0 : Old Z n0 h0) (S_AD : SAD Z) (S_HI : SHI Z) (S_LO : SLO Z) (V1 : Arv Z h0 a1 k1 .byte (Int32.ofNat (2 * cs.length)) (u16 cs) (.int 0)) (hn : cs.length ≤ 257) (hcs : ∀ c ∈ cs, ¬ c < 0 ∧ ¬ (65535 : Int32) < c) (h0n : 0 < cs.length) :
  MetFree l mN25 (head1 (Jvm.Cond.code mN25 jdk_52_method_12_code 3 (some .int) :: ws) (Rm 2 0 0 40)) (fun a U => a = #[(.ref a1), (.int 0), (.int (Int32.ofNat cs.length))] ∧ Z.Warmed39 U.vm ∧ U.heap = h0) (fun _ _ _ _ _ => True) (fun _ U o U' => ∃ v L, o = .returned v ∧ Q_rmCp3 Z a1 cs k1 h0 n0 v U'.heap L ∧ FrameEnd U o U' L (Rm 2 0 0 40).cells (Rm 2 0 0 40).slots) := by
 refine MetFree.of_bodySF (plainFor_of_name pn_22) hisR ?_
 intro p e s m args below meth c s₁ Bd hml0 hP hK
 obtain ⟨rfl, hZ, hh⟩ := hP
 have hx := Bd.exec
 have hby := Bd.bytes
 have hml : c.maxLocals = 3 := hml0
 have hown : s.vm.findClass "java/lang/StringUTF16" = some m.cls := findClass_of_methodNamed Bd.named
 have hnm := (name_of_methodNamed Bd.named Bd.method).1
 have X0 : Stand p l e (Rm 2 0 0 40) s m #[(.ref a1), (.int 0), (.int (Int32.ofNat cs.length))] below meth c s₁ [] 0 0 := Stand.of_body Bd
 have e0 : s₁.heap = h0 := by rw [← hh, Bd.state]; rfl
 have N0 := Fr.nil n0
 have hn0 : n0 ≤ h0.size := O0.1 ▸ O0.2.1
 have pre0 : ∀ t, SS p e below s₁ m 0 #[vR a1, vI 0, vI (Int32.ofNat cs.length)] [] t → Steps p.tables e below (s₁.setTop (entryFrame m #[(.ref a1), (.int 0), (.int (Int32.ofNat cs.length))] 3)) t := fun t k => castTop (ef_rmCp3 m a1 ((Int32.ofNat cs.length))) k
 obtain ⟨_, _, ⟨T101, L101, k101, n101⟩, -, X101, ⟨Lc101, hQ101, l101, y101, z101⟩, st101⟩ := Jvm.LawKit.callS X0 hx (y := mN24) hown (mvT hZ (tw hw 102 rfl)) (mvT hZ (tw hw 103 rfl)) (mvT hZ (tw hw 43 rfl)) (mvT hZ (tw hw 104 rfl)) (by decide) (backOf (W := 0) (rmCpz l Z a0 hw [] a1 cs k1 h0 n0 O0 S_AD S_HI S_LO V1 hn hcs h0n) hZ (tw hw 104 rfl) (tw hw 43 rfl) (by decide) (by decide)) (g := (mkF m 4 #[vR a1, vI 0, vI (Int32.ofNat cs.length)] [(.int 0), (.int (Int32.ofNat cs.length)), (.int 0), (.ref a1)])) rfl (by rw [hml]; rfl) (argsL := [(.ref a1), (.int 0), (.int (Int32.ofNat cs.length)), (.int 0)]) (rest := []) (lenOf pd_20 rfl) rfl (by show 2 * 0 + _ ≤ _; exact Nat.le_of_eq rfl) (hb hby d22_4) (fun _ _ => ⟨rfl, e0, (by decide : 0 + 0 ≤ _), (by decide : 0 + 0 ≤ _)⟩)
 dsimp only [Pt.U, Pt.locs, Pt.cells, Pt.slots] at X101 l101 y101 z101 st101 hQ101
 subst l101 y101 z101
 obtain ⟨rfl, N101q, H101⟩ := hQ101
 have N101 := Fr.app N0 N101q
 obtain ⟨fs, hr, hrun, hended, hW, hsame⟩ := X101.leave (v := some (.int (Int32.ofNat (cs.length - prs cs)))) (fun h => by rw [Bd.returns] at h; cases h)
 refine ⟨_, _, pre0 _ ?_, hrun, hended, _, _, rfl, ?_, ⟨_, rfl⟩, hW, hsame.mono (by decide) (by decide)⟩
 ·skip
  show SS p e below s₁ m 0 #[vR a1, vI 0, vI (Int32.ofNat cs.length)] [] _
  refine XS.aloadN X0.here hx rfl (hb hby d22_0) rfl rfl ?_
  refine XS.iloadN X0.here hx rfl (hb hby d22_1) rfl ?_
  refine XS.iloadN X0.here hx rfl (hb hby d22_2) rfl ?_
  refine XS.iconst X0.here hx rfl (hb hby d22_3) ?_
  show SS p e below s₁ m 4 #[vR a1, vI 0, vI (Int32.ofNat cs.length)] [(.int 0), (.int (Int32.ofNat cs.length)), (.int 0), (.ref a1)] _
  refine st101 _ ?_
  show SS p e below T101 m 7 #[vR a1, vI 0, vI (Int32.ofNat cs.length)] [(.int (Int32.ofNat (cs.length - prs cs)))] _
  exact retI X101 hx Bd.returns (hb hby d22_7) hr
 ·show Q_rmCp3 Z a1 cs k1 h0 n0 _ T101.heap _
  rw [H101]
  exact ⟨rfl, N101, rfl⟩
theorem d39_0 : decode cD26 0 = .ok (.iload_n 0, 1) := by decide +kernel
theorem d39_1 : decode cD26 1 = .ok (.ifCond .lt 14, 3) := by decide +kernel
theorem d39_4 : decode cD26 4 = .ok (.iload_n 0, 1) := by decide +kernel
theorem d39_5 : decode cD26 5 = .ok (.sipush 255, 3) := by decide +kernel
theorem d39_8 : decode cD26 8 = .ok (.if_icmp .gt 7, 3) := by decide +kernel
theorem d39_11 : decode cD26 11 = .ok (.iconst 1, 1) := by decide +kernel
theorem d39_12 : decode cD26 12 = .ok (.goto 4, 3) := by decide +kernel
theorem d39_16 : decode cD26 16 = .ok (.ireturn, 1) := by decide +kernel
theorem pn_39 : plainName "java/lang/StringLatin1" = true := by first | (simp [plainName, overriddenIn]; done) | decide +kernel
theorem ef_rmCanI0 (m : MethodId) : entryFrame m #[(.int 0)] 1 = (mkF m 0 #[vI 0] []) := by first | (simp [entryFrame, mkF, argsToLocals, Value.category]; done) | rfl
def Q_rmCanI0 (Z : State)  (h0 : Heap) (n0 : Nat) (v : Option Value) (h : Heap) (L : List Loc) : Prop := v = some (.int 1) ∧ Fr n0 L ∧ h = h0
set_option maxRecDepth 65536 in
set_option maxHeartbeats 40000000 in
theorem rmCanI0 (l : Launch) (Z : State) (a0 : Array Value) (hw : ∀ d ∈ tables_1, d.before a0 Z = true) (ws : List Jvm.Cond)  (h0 : Heap) (n0 : Nat) (O0 : Old Z n0 h0) :
  MetFree l mN26 (head1 (Jvm.Cond.code mN26 jdk_43_method_4_code 1 (some .boolean) :: ws) (Rm 0 0 0 0)) (fun a U => a = #[(.int 0)] ∧ Z.Warmed39 U.vm ∧ U.heap = h0) (fun _ _ _ _ _ => True) (fun _ U o U' => ∃ v L, o = .returned v ∧ Q_rmCanI0 Z  h0 n0 v U'.heap L ∧ FrameEnd U o U' L (Rm 0 0 0 0).cells (Rm 0 0 0 0).slots) := by
 refine MetFree.of_bodySF (plainFor_of_name pn_39) hisR ?_
 intro p e s m args below meth c s₁ Bd hml0 hP hK
 obtain ⟨rfl, hZ, hh⟩ := hP
 have hx := Bd.exec
 have hby := Bd.bytes
 have hml : c.maxLocals = 1 := hml0
 have hown : s.vm.findClass "java/lang/StringLatin1" = some m.cls := findClass_of_methodNamed Bd.named
 have hnm := (name_of_methodNamed Bd.named Bd.method).1
 have X0 : Stand p l e (Rm 0 0 0 0) s m #[(.int 0)] below meth c s₁ [] 0 0 := Stand.of_body Bd
 have e0 : s₁.heap = h0 := by rw [← hh, Bd.state]; rfl
 have N0 := Fr.nil n0
 have hn0 : n0 ≤ h0.size := O0.1 ▸ O0.2.1
 have pre0 : ∀ t, SS p e below s₁ m 0 #[vI 0] [] t → Steps p.tables e below (s₁.setTop (entryFrame m #[(.int 0)] 1)) t := fun t k => castTop (ef_rmCanI0 m ) k
 obtain ⟨fs, hr, hrun, hended, hW, hsame⟩ := X0.leave (v := some (.int 1)) (fun h => by rw [Bd.returns] at h; cases h)
 refine ⟨_, _, pre0 _ ?_, hrun, hended, _, _, rfl, ?_, ⟨_, rfl⟩, hW, hsame.mono (by decide) (by decide)⟩
 ·skip
  show SS p e below s₁ m 0 #[vI 0] [] _
  refine XS.iloadN X0.here hx rfl (hb hby d39_0) rfl ?_
  refine XS.ifNo X0.here hx rfl (hb hby d39_1) rfl ((if0 _ _).trans (flt (by decide : ¬ ((0 : Int32) < (0 : Int32)))).1) ?_
  refine XS.iloadN X0.here hx rfl (hb hby d39_4) rfl ?_
  refine XS.sipush X0.here hx rfl (hb hby d39_5) ?_
  refine XS.icmpNo X0.here hx rfl (hb hby d39_8) rfl (flt (by decide : ¬ ((255 : Int32) < (0 : Int32)))).2.2.1 ?_
  refine XS.iconst X0.here hx rfl (hb hby d39_11) ?_
  refine XS.goto X0.here hx rfl (pc0 := 12) (pc' := 16) rfl (hb hby d39_12) (by decide) (by decide) ?_
  show SS p e below s₁ m 16 #[vI 0] [(.int 1)] _
  exact retN X0 hx (t := .boolean) Bd.returns (by simp) (hb hby d39_16) hr
 ·show Q_rmCanI0 Z  h0 n0 _ s₁.heap _
  rw [e0]
  exact ⟨rfl, N0, rfl⟩
theorem d38_0 : decode cD27 0 = .ok (.iload_n 1, 1) := by decide +kernel
theorem d38_1 : decode cD27 1 = .ok (.invokestatic 88, 3) := by decide +kernel
theorem d38_4 : decode cD27 4 = .ok (.ifCond .ne 5, 3) := by decide +kernel
theorem d38_9 : decode cD27 9 = .ok (.iload_n 2, 1) := by decide +kernel
theorem d38_10 : decode cD27 10 = .ok (.iconst 0, 1) := by decide +kernel
theorem d38_11 : decode cD27 11 = .ok (.invokestatic 92, 3) := by decide +kernel
theorem d38_14 : decode cD27 14 = .ok (.istore_n 2, 1) := by decide +kernel
theorem d38_15 : decode cD27 15 = .ok (.iload_n 3, 1) := by decide +kernel
theorem d38_16 : decode cD27 16 = .ok (.aload_n 0, 1) := by decide +kernel
theorem d38_17 : decode cD27 17 = .ok (.arraylength, 1) := by decide +kernel
theorem d38_18 : decode cD27 18 = .ok (.invokestatic 38, 3) := by decide +kernel
theorem d38_21 : decode cD27 21 = .ok (.istore_n 3, 1) := by decide +kernel
theorem d38_22 : decode cD27 22 = .ok (.iload_n 2, 1) := by decide +kernel
theorem d38_23 : decode cD27 23 = .ok (.iload_n 3, 1) := by decide +kernel
theorem d38_24 : decode cD27 24 = .ok (.if_icmp .lt 5, 3) := by decide +kernel
theorem d38_29 : decode cD27 29 = .ok (.aload_n 0, 1) := by decide +kernel
theorem d38_30 : decode cD27 30 = .ok (.iload_n 1, 1) := by decide +kernel
theorem d38_31 : decode cD27 31 = .ok (.iload_n 2, 1) := by decide +kernel
theorem d38_32 : decode cD27 32 = .ok (.iload_n 3, 1) := by decide +kernel
theorem d38_33 : decode cD27 33 = .ok (.invokestatic 95, 3) := by decide +kernel
theorem d38_36 : decode cD27 36 = .ok (.ireturn, 1) := by decide +kernel
theorem pn_38 : plainName "java/lang/StringLatin1" = true := by first | (simp [plainName, overriddenIn]; done) | decide +kernel
theorem pd_28 : parseMethodDescriptor "(I)Z" = some ⟨[.int], some .boolean⟩ := by decide +kernel
theorem pd_16 : parseMethodDescriptor "(II)I" = some ⟨[.int, .int], some .int⟩ := by decide +kernel
theorem pd_22 : parseMethodDescriptor "([BIII)I" = some ⟨[(.array .byte), .int, .int, .int], some .int⟩ := by decide +kernel
theorem ef_rmIx4L (m : MethodId) (y0 : Addr) (y1 : Int32) : entryFrame m #[(.ref y0), (.int 0), (.int 0), (.int y1)] 4 = (mkF m 0 #[vR y0, vI 0, vI 0, vI y1] []) := by first | (simp [entryFrame, mkF, argsToLocals, Value.category]; done) | rfl
def Q_rmIx4L (Z : State) (a1 : Addr) (bs : List Int32) (k1 : ClassId) (m1 : Nat) (h0 : Heap) (n0 : Nat) (v : Option Value) (h : Heap) (L : List Loc) : Prop := v = some (.int (if m1 < bs.length then Int32.ofNat m1 else (-1 : Int32))) ∧ Fr n0 L ∧ h = h0
set_option maxRecDepth 65536 in
set_option maxHeartbeats 40000000 in
theorem rmIx4L (l : Launch) (Z : State) (a0 : Array Value) (hw : ∀ d ∈ tables_1, d.before a0 Z = true) (ws : List Jvm.Cond) (a1 : Addr) (bs : List Int32) (k1 : ClassId) (m1 : Nat) (h0 : Heap) (n0 : Nat) (O0 : Old Z n0 h0) (V1 : Arv Z h0 a1 k1 .byte (Int32.ofNat bs.length) (bs.map Value.int) (.int 0)) (hn : bs.length ≤ 257) (hm : m1 ≤ bs.length) (hpre : ∀ j, j < m1 → ¬ ((bs.getD j 0) = (0 : Int32))) (hend : m1 < bs.length → (bs.getD m1 0) = (0 : Int32)) (h0n : 0 < bs.length) :
  MetFree l mN27 (head1 (Jvm.Cond.code mN27 jdk_43_method_22_code 4 (some .int) :: ws) (Rm 1 0 0 30)) (fun a U => a = #[(.ref a1), (.int 0), (.int 0), (.int (Int32.ofNat bs.length))] ∧ Z.Warmed39 U.vm ∧ U.heap = h0) (fun _ _ _ _ _ => True) (fun _ U o U' => ∃ v L, o = .returned v ∧ Q_rmIx4L Z a1 bs k1 m1 h0 n0 v U'.heap L ∧ FrameEnd U o U' L (Rm 1 0 0 30).cells (Rm 1 0 0 30).slots) := by
 refine MetFree.of_bodySF (plainFor_of_name pn_38) hisR ?_
 intro p e s m args below meth c s₁ Bd hml0 hP hK
 obtain ⟨rfl, hZ, hh⟩ := hP
 have hx := Bd.exec
 have hby := Bd.bytes
 have hml : c.maxLocals = 4 := hml0
 have hown : s.vm.findClass "java/lang/StringLatin1" = some m.cls := findClass_of_methodNamed Bd.named
 have hnm := (name_of_methodNamed Bd.named Bd.method).1
 have X0 : Stand p l e (Rm 1 0 0 30) s m #[(.ref a1), (.int 0), (.int 0), (.int (Int32.ofNat bs.length))] below meth c s₁ [] 0 0 := Stand.of_body Bd
 have e0 : s₁.heap = h0 := by rw [← hh, Bd.state]; rfl
 have N0 := Fr.nil n0
 have hn0 : n0 ≤ h0.size := O0.1 ▸ O0.2.1
 have pre0 : ∀ t, SS p e below s₁ m 0 #[vR a1, vI 0, vI 0, vI (Int32.ofNat bs.length)] [] t → Steps p.tables e below (s₁.setTop (entryFrame m #[(.ref a1), (.int 0), (.int 0), (.int (Int32.ofNat bs.length))] 4)) t := fun t k => castTop (ef_rmIx4L m a1 ((Int32.ofNat bs.length))) k
 have hn31 : bs.length < 2 ^ 31 := by omega
 obtain ⟨_, _, ⟨T101, L101, k101, n101⟩, -, X101, ⟨Lc101, hQ101, l101, y101, z101⟩, st101⟩ := Jvm.LawKit.callS X0 hx (y := mN26) hown (mvT hZ (tw hw 165 rfl)) (mvT hZ (tw hw 166 rfl)) (mvT hZ (tw hw 163 rfl)) (mvT hZ (tw hw 167 rfl)) (by decide) (backOf (W := 0) (rmCanI0 l Z a0 hw []   h0 n0 O0 ) hZ (tw hw 167 rfl) (tw hw 163 rfl) (by decide) (by decide)) (g := (mkF m 1 #[vR a1, vI 0, vI 0, vI (Int32.ofNat bs.length)] [(.int 0)])) rfl (by rw [hml]; rfl) (argsL := [(.int 0)]) (rest := []) (lenOf pd_28 rfl) rfl (by show 2 * 0 + _ ≤ _; exact Nat.le_of_eq rfl) (hb hby d38_1) (fun _ _ => ⟨rfl, e0, (by decide : 0 + 0 ≤ _), (by decide : 0 + 0 ≤ _)⟩)
 dsimp only [Pt.U, Pt.locs, Pt.cells, Pt.slots] at X101 l101 y101 z101 st101 hQ101
 subst l101 y101 z101
 obtain ⟨rfl, N101q, H101⟩ := hQ101
 have N101 := Fr.app N0 N101q
 obtain ⟨_, _, ⟨T102, L102, k102, n102⟩, -, X102, ⟨Lc102, hQ102, l102, y102, z102⟩, st102⟩ := Jvm.LawKit.callS X101 hx (y := mN15) hown (mvT hZ (tw hw 168 rfl)) (mvT hZ (tw hw 125 rfl)) (mvT hZ (tw hw 126 rfl)) (mvT hZ (tw hw 127 rfl)) (by decide) (backOf (W := 0) (rmMmax l Z a0 hw [] (0 : Int32) (0 : Int32)  h0 n0 O0 ) hZ (tw hw 127 rfl) (tw hw 126 rfl) (by decide) (by decide)) (g := (mkF m 11 #[vR a1, vI 0, vI 0, vI (Int32.ofNat bs.length)] [(.int 0), (.int 0)])) rfl (by rw [hml]; rfl) (argsL := [(.int 0), (.int 0)]) (rest := []) (lenOf pd_16 rfl) rfl (by show 2 * 0 + _ ≤ _; exact Nat.le_of_eq rfl) (hb hby d38_11) (fun _ _ => ⟨rfl, H101, (by decide : 0 + 0 ≤ _), (by decide : 0 + 0 ≤ _)⟩)
 dsimp only [Pt.U, Pt.locs, Pt.cells, Pt.slots] at X102 l102 y102 z102 st102 hQ102
 subst l102 y102 z102
 obtain ⟨rfl, N102q, H102⟩ := hQ102
 have N102 := Fr.app N101 N102q
 have hr103 : (jmax (0 : Int32) (0 : Int32)) = (0 : Int32) := by decide
 obtain ⟨cl104, Ar104, q104, S104, Nn104, H104, G104⟩ := id V1
 obtain ⟨_, _, ⟨T105, L105, k105, n105⟩, -, X105, ⟨Lc105, hQ105, l105, y105, z105⟩, st105⟩ := Jvm.LawKit.callS X102 hx (y := mN16) hown (mvT hZ (tw hw 169 rfl)) (mvT hZ (tw hw 129 rfl)) (mvT hZ (tw hw 126 rfl)) (mvT hZ (tw hw 130 rfl)) (by decide) (backOf (W := 0) (rmMmin l Z a0 hw [] (Int32.ofNat bs.length) (Int32.ofNat bs.length)  h0 n0 O0 ) hZ (tw hw 130 rfl) (tw hw 126 rfl) (by decide) (by decide)) (g := (mkF m 18 #[vR a1, vI 0, vI 0, vI (Int32.ofNat bs.length)] [(.int (Int32.ofNat bs.length)), (.int (Int32.ofNat bs.length))])) rfl (by rw [hml]; rfl) (argsL := [(.int (Int32.ofNat bs.length)), (.int (Int32.ofNat bs.length))]) (rest := []) (lenOf pd_16 rfl) rfl (by show 2 * 0 + _ ≤ _; exact Nat.le_of_eq rfl) (hb hby d38_18) (fun _ _ => ⟨rfl, H102, (by decide : 0 + 0 ≤ _), (by decide : 0 + 0 ≤ _)⟩)
 dsimp only [Pt.U, Pt.locs, Pt.cells, Pt.slots] at X105 l105 y105 z105 st105 hQ105
 subst l105 y105 z105
 obtain ⟨rfl, N105q, H105⟩ := hQ105
 have N105 := Fr.app N102 N105q
 have hr106 : (jmin (Int32.ofNat bs.length) (Int32.ofNat bs.length)) = (Int32.ofNat bs.length) := ite_self _
 obtain ⟨_, _, ⟨T107, L107, k107, n107⟩, -, X107, ⟨Lc107, hQ107, l107, y107, z107⟩, st107⟩ := Jvm.LawKit.callS X105 hx (y := mN22) hown (mvT hZ (tw hw 170 rfl)) (mvT hZ (tw hw 171 rfl)) (mvT hZ (tw hw 163 rfl)) (mvT hZ (tw hw 172 rfl)) (by decide) (backOf (W := 0) (rmIxL l Z a0 hw [] a1 bs k1 m1 h0 n0 O0 V1 hn hm hpre hend) hZ (tw hw 172 rfl) (tw hw 163 rfl) (by decide) (by decide)) (g := (mkF m 33 #[vR a1, vI 0, vI 0, vI (Int32.ofNat bs.length)] [(.int (Int32.ofNat bs.length)), (.int 0), (.int 0), (.ref a1)])) rfl (by rw [hml]; rfl) (argsL := [(.ref a1), (.int 0), (.int 0), (.int (Int32.ofNat bs.length))]) (rest := []) (lenOf pd_22 rfl) rfl (by show 2 * 0 + _ ≤ _; exact Nat.le_of_eq rfl) (hb hby d38_33) (fun _ _ => ⟨rfl, H105, (by decide : 0 + 0 ≤ _), (by decide : 0 + 0 ≤ _)⟩)
 dsimp only [Pt.U, Pt.locs, Pt.cells, Pt.slots] at X107 l107 y107 z107 st107 hQ107
 subst l107 y107 z107
 obtain ⟨rfl, N107q, H107⟩ := hQ107
 have N107 := Fr.app N105 N107q
 obtain ⟨fs, hr, hrun, hended, hW, hsame⟩ := X107.leave (v := some (.int (if m1 < bs.length then Int32.ofNat m1 else (-1 : Int32)))) (fun h => by rw [Bd.returns] at h; cases h)
 refine ⟨_, _, pre0 _ ?_, hrun, hended, _, _, rfl, ?_, ⟨_, rfl⟩, hW, hsame.mono (by decide) (by decide)⟩
 ·skip
  show SS p e below s₁ m 0 #[vR a1, vI 0, vI 0, vI (Int32.ofNat bs.length)] [] _
  refine XS.iloadN X0.here hx rfl (hb hby d38_0) rfl ?_
  show SS p e below s₁ m 1 #[vR a1, vI 0, vI 0, vI (Int32.ofNat bs.length)] [(.int 0)] _
  refine st101 _ ?_
  refine XS.ifYes X101.here hx rfl (pc0 := 4) (pc' := 9) rfl (hb hby d38_4) rfl ((if0 _ _).trans (feq (by decide : ¬ ((1 : Int32) = (0 : Int32)))).2) (by decide) (by decide) ?_
  refine XS.iloadN X101.here hx rfl (hb hby d38_9) rfl ?_
  refine XS.iconst X101.here hx rfl (hb hby d38_10) ?_
  show SS p e below T101 m 11 #[vR a1, vI 0, vI 0, vI (Int32.ofNat bs.length)] [(.int 0), (.int 0)] _
  refine st102 _ ?_
  show SS p e below T102 m 14 #[vR a1, vI 0, vI 0, vI (Int32.ofNat bs.length)] [(.int (jmax (0 : Int32) (0 : Int32)))] _
  rw [hr103]
  refine XS.istoreN X102.here hx rfl (hb hby d38_14) rfl (l' := #[vR a1, vI 0, vI 0, vI (Int32.ofNat bs.length)]) rfl ?_
  refine XS.iloadN X102.here hx rfl (hb hby d38_15) rfl ?_
  refine XS.aloadN X102.here hx rfl (hb hby d38_16) rfl rfl ?_
  show SS p e below T102 m 17 #[vR a1, vI 0, vI 0, vI (Int32.ofNat bs.length)] [(.ref a1), (.int (Int32.ofNat bs.length))] _
  refine X102.arraylength hx (by rw [H102]; exact Ar104.1) (State.isArrayOf_alike hZ.alike Ar104.2.1) (g := (mkF m 17 #[vR a1, vI 0, vI 0, vI (Int32.ofNat bs.length)] [(.ref a1), (.int (Int32.ofNat bs.length))])) rfl rfl (hb hby d38_17) _ ?_
  rw [len_of S104 Nn104]
  show SS p e below T102 m 18 #[vR a1, vI 0, vI 0, vI (Int32.ofNat bs.length)] [(.int (Int32.ofNat bs.length)), (.int (Int32.ofNat bs.length))] _
  refine st105 _ ?_
  show SS p e below T105 m 21 #[vR a1, vI 0, vI 0, vI (Int32.ofNat bs.length)] [(.int (jmin (Int32.ofNat bs.length) (Int32.ofNat bs.length)))] _
  rw [hr106]
  refine XS.istoreN X105.here hx rfl (hb hby d38_21) rfl (l' := #[vR a1, vI 0, vI 0, vI (Int32.ofNat bs.length)]) rfl ?_
  refine XS.iloadN X105.here hx rfl (hb hby d38_22) rfl ?_
  refine XS.iloadN X105.here hx rfl (hb hby d38_23) rfl ?_
  refine XS.icmpYes X105.here hx rfl (pc0 := 24) (pc' := 29) rfl (hb hby d38_24) rfl (tlt ((own_lt (i := 0) (by decide) hn31).mpr h0n : (0 : Int32) < (Int32.ofNat bs.length))).1 (by decide) (by decide) ?_
  refine XS.aloadN X105.here hx rfl (hb hby d38_29) rfl rfl ?_
  refine XS.iloadN X105.here hx rfl (hb hby d38_30) rfl ?_
  refine XS.iloadN X105.here hx rfl (hb hby d38_31) rfl ?_
  refine XS.iloadN X105.here hx rfl (hb hby d38_32) rfl ?_
  show SS p e below T105 m 33 #[vR a1, vI 0, vI 0, vI (Int32.ofNat bs.length)] [(.int (Int32.ofNat bs.length)), (.int 0), (.int 0), (.ref a1)] _
  refine st107 _ ?_
  show SS p e below T107 m 36 #[vR a1, vI 0, vI 0, vI (Int32.ofNat bs.length)] [(.int (if m1 < bs.length then Int32.ofNat m1 else (-1 : Int32)))] _
  exact retI X107 hx Bd.returns (hb hby d38_36) hr
 ·show Q_rmIx4L Z a1 bs k1 m1 h0 n0 _ T107.heap _
  rw [H107]
  exact ⟨rfl, N107, rfl⟩
theorem d30_0 : decode cD28 0 = .ok (.iload_n 2, 1) := by decide +kernel
theorem d30_1 : decode cD28 1 = .ok (.iload_n 3, 1) := by decide +kernel
theorem d30_2 : decode cD28 2 = .ok (.aload_n 0, 1) := by decide +kernel
theorem d30_3 : decode cD28 3 = .ok (.invokestatic 96, 3) := by decide +kernel
theorem d30_6 : decode cD28 6 = .ok (.aload_n 0, 1) := by decide +kernel
theorem d30_7 : decode cD28 7 = .ok (.iload_n 1, 1) := by decide +kernel
theorem d30_8 : decode cD28 8 = .ok (.iload_n 2, 1) := by decide +kernel
theorem d30_9 : decode cD28 9 = .ok (.iload_n 3, 1) := by decide +kernel
theorem d30_10 : decode cD28 10 = .ok (.invokestatic 244, 3) := by decide +kernel
theorem d30_13 : decode cD28 13 = .ok (.ireturn, 1) := by decide +kernel
theorem pn_30 : plainName "java/lang/StringUTF16" = true := by first | (simp [plainName, overriddenIn]; done) | decide +kernel
theorem pd_23 : parseMethodDescriptor "(II[B)V" = some ⟨[.int, .int, (.array .byte)], none⟩ := by decide +kernel
theorem ef_rmIxcU (m : MethodId) (y0 : Addr) (y1 : Int32) : entryFrame m #[(.ref y0), (.int 0), (.int 0), (.int y1)] 4 = (mkF m 0 #[vR y0, vI 0, vI 0, vI y1] []) := by first | (simp [entryFrame, mkF, argsToLocals, Value.category]; done) | rfl
def Q_rmIxcU (Z : State) (a1 : Addr) (cs : List Int32) (k1 : ClassId) (m1 : Nat) (fm : Value) (h0 : Heap) (n0 : Nat) (v : Option Value) (h : Heap) (L : List Loc) : Prop := v = some (.int (if m1 < cs.length then Int32.ofNat m1 else (-1 : Int32))) ∧ Fr n0 L ∧ h = h0
set_option maxRecDepth 65536 in
set_option maxHeartbeats 40000000 in
theorem rmIxcU (l : Launch) (Z : State) (a0 : Array Value) (hw : ∀ d ∈ tables_1, d.before a0 Z = true) (ws : List Jvm.Cond) (a1 : Addr) (cs : List Int32) (k1 : ClassId) (m1 : Nat) (fm : Value) (h0 : Heap) (n0 : Nat) (O0 : Old Z n0 h0) (S_AD : SAD Z) (S_HI : SHI Z) (S_LO : SLO Z) (V1 : Arv Z h0 a1 k1 .byte (Int32.ofNat (2 * cs.length)) (u16 cs) (.int 0)) (hn : cs.length ≤ 257) (hcs : ∀ c ∈ cs, ¬ c < 0 ∧ ¬ (65535 : Int32) < c) (hm : m1 ≤ cs.length) (hpre : ∀ j, j < m1 → ¬ ((cs.getD j 0) = (0 : Int32))) (hend : m1 < cs.length → (cs.getD m1 0) = (0 : Int32)) (h0n : 0 < cs.length) (S_FM : SFM Z fm) (r_FM : fm.isRef = true) :
  MetFree l mN28 (head1 (Jvm.Cond.code mN28 jdk_52_method_47_code 4 (some .int) :: ws) (Rm 3 0 0 60)) (fun a U => a = #[(.ref a1), (.int 0), (.int 0), (.int (Int32.ofNat cs.length))] ∧ Z.Warmed39 U.vm ∧ U.heap = h0) (fun _ _ _ _ _ => True) (fun _ U o U' => ∃ v L, o = .returned v ∧ Q_rmIxcU Z a1 cs k1 m1 fm h0 n0 v U'.heap L ∧ FrameEnd U o U' L (Rm 3 0 0 60).cells (Rm 3 0 0 60).slots) := by
 refine MetFree.of_bodySF (plainFor_of_name pn_30) hisR ?_
 intro p e s m args below meth c s₁ Bd hml0 hP hK
 obtain ⟨rfl, hZ, hh⟩ := hP
 have hx := Bd.exec
 have hby := Bd.bytes
 have hml : c.maxLocals = 4 := hml0
 have hown : s.vm.findClass "java/lang/StringUTF16" = some m.cls := findClass_of_methodNamed Bd.named
 have hnm := (name_of_methodNamed Bd.named Bd.method).1
 have X0 : Stand p l e (Rm 3 0 0 60) s m #[(.ref a1), (.int 0), (.int 0), (.int (Int32.ofNat cs.length))] below meth c s₁ [] 0 0 := Stand.of_body Bd
 have e0 : s₁.heap = h0 := by rw [← hh, Bd.state]; rfl
 have N0 := Fr.nil n0
 have hn0 : n0 ≤ h0.size := O0.1 ▸ O0.2.1
 have pre0 : ∀ t, SS p e below s₁ m 0 #[vR a1, vI 0, vI 0, vI (Int32.ofNat cs.length)] [] t → Steps p.tables e below (s₁.setTop (entryFrame m #[(.ref a1), (.int 0), (.int 0), (.int (Int32.ofNat cs.length))] 4)) t := fun t k => castTop (ef_rmIxcU m a1 ((Int32.ofNat cs.length))) k
 have hn31 : cs.length < 2 ^ 31 := by omega
 obtain ⟨_, _, ⟨T101, L101, k101, n101⟩, -, X101, ⟨Lc101, hQ101, l101, y101, z101⟩, st101⟩ := Jvm.LawKit.callS X0 hx (y := mN21) hown (mvT hZ (tw hw 135 rfl)) (mvT hZ (tw hw 136 rfl)) (mvT hZ (tw hw 43 rfl)) (mvT hZ (tw hw 137 rfl)) (by decide) (backOf (W := 0) (rmUcbe l Z a0 hw [] (0 : Int32) (Int32.ofNat cs.length) a1 cs k1 (u16 cs) fm h0 n0 O0 S_FM r_FM V1 hn (by decide) (own_nn hn31) (fun q => Nat.lt_irrefl _ ((own_lt hn31 hn31).mp q))) hZ (tw hw 137 rfl) (tw hw 43 rfl) (by decide) (by decide)) (g := (mkF m 3 #[vR a1, vI 0, vI 0, vI (Int32.ofNat cs.length)] [(.ref a1), (.int (Int32.ofNat cs.length)), (.int 0)])) rfl (by rw [hml]; rfl) (argsL := [(.int 0), (.int (Int32.ofNat cs.length)), (.ref a1)]) (rest := []) (lenOf pd_23 rfl) rfl (by show 2 * 0 + _ ≤ _; exact Nat.le_of_eq rfl) (hb hby d30_3) (fun _ _ => ⟨rfl, e0, (by decide : 0 + 0 ≤ _), (by decide : 0 + 0 ≤ _)⟩)
 dsimp only [Pt.U, Pt.locs, Pt.cells, Pt.slots] at X101 l101 y101 z101 st101 hQ101
 subst l101 y101 z101
 obtain ⟨rfl, N101q, H101⟩ := hQ101
 have N101 := Fr.app N0 N101q
 obtain ⟨_, _, ⟨T102, L102, k102, n102⟩, -, X102, ⟨Lc102, hQ102, l102, y102, z102⟩, st102⟩ := Jvm.LawKit.callS X101 hx (y := mN23) hown (mvT hZ (tw hw 146 rfl)) (mvT hZ (tw hw 147 rfl)) (mvT hZ (tw hw 43 rfl)) (mvT hZ (tw hw 148 rfl)) (by decide) (backOf (W := 0) (rmIxU l Z a0 hw [] a1 cs k1 m1 h0 n0 O0 S_AD S_HI S_LO V1 hn hcs hm hpre hend) hZ (tw hw 148 rfl) (tw hw 43 rfl) (by decide) (by decide)) (g := (mkF m 10 #[vR a1, vI 0, vI 0, vI (Int32.ofNat cs.length)] [(.int (Int32.ofNat cs.length)), (.int 0), (.int 0), (.ref a1)])) rfl (by rw [hml]; rfl) (argsL := [(.ref a1), (.int 0), (.int 0), (.int (Int32.ofNat cs.length))]) (rest := []) (lenOf pd_22 rfl) rfl (by show 2 * 0 + _ ≤ _; exact Nat.le_of_eq rfl) (hb hby d30_10) (fun _ _ => ⟨rfl, H101, (by decide : 0 + 0 ≤ _), (by decide : 0 + 0 ≤ _)⟩)
 dsimp only [Pt.U, Pt.locs, Pt.cells, Pt.slots] at X102 l102 y102 z102 st102 hQ102
 subst l102 y102 z102
 obtain ⟨rfl, N102q, H102⟩ := hQ102
 have N102 := Fr.app N101 N102q
 obtain ⟨fs, hr, hrun, hended, hW, hsame⟩ := X102.leave (v := some (.int (if m1 < cs.length then Int32.ofNat m1 else (-1 : Int32)))) (fun h => by rw [Bd.returns] at h; cases h)
 refine ⟨_, _, pre0 _ ?_, hrun, hended, _, _, rfl, ?_, ⟨_, rfl⟩, hW, hsame.mono (by decide) (by decide)⟩
 ·skip
  show SS p e below s₁ m 0 #[vR a1, vI 0, vI 0, vI (Int32.ofNat cs.length)] [] _
  refine XS.iloadN X0.here hx rfl (hb hby d30_0) rfl ?_
  refine XS.iloadN X0.here hx rfl (hb hby d30_1) rfl ?_
  refine XS.aloadN X0.here hx rfl (hb hby d30_2) rfl rfl ?_
  show SS p e below s₁ m 3 #[vR a1, vI 0, vI 0, vI (Int32.ofNat cs.length)] [(.ref a1), (.int (Int32.ofNat cs.length)), (.int 0)] _
  refine st101 _ ?_
  refine XS.aloadN X101.here hx rfl (hb hby d30_6) rfl rfl ?_
  refine XS.iloadN X101.here hx rfl (hb hby d30_7) rfl ?_
  refine XS.iloadN X101.here hx rfl (hb hby d30_8) rfl ?_
  refine XS.iloadN X101.here hx rfl (hb hby d30_9) rfl ?_
  show SS p e below T101 m 10 #[vR a1, vI 0, vI 0, vI (Int32.ofNat cs.length)] [(.int (Int32.ofNat cs.length)), (.int 0), (.int 0), (.ref a1)] _
  refine st102 _ ?_
  show SS p e below T102 m 13 #[vR a1, vI 0, vI 0, vI (Int32.ofNat cs.length)] [(.int (if m1 < cs.length then Int32.ofNat m1 else (-1 : Int32)))] _
  exact retI X102 hx Bd.returns (hb hby d30_13) hr
 ·show Q_rmIxcU Z a1 cs k1 m1 fm h0 n0 _ T102.heap _
  rw [H102]
  exact ⟨rfl, N102, rfl⟩
theorem d27_0 : decode cD29 0 = .ok (.iload_n 2, 1) := by decide +kernel
theorem d27_1 : decode cD29 1 = .ok (.iconst 0, 1) := by decide +kernel
theorem d27_2 : decode cD29 2 = .ok (.invokestatic 224, 3) := by decide +kernel
theorem d27_5 : decode cD29 5 = .ok (.istore_n 2, 1) := by decide +kernel
theorem d27_6 : decode cD29 6 = .ok (.iload_n 3, 1) := by decide +kernel
theorem d27_7 : decode cD29 7 = .ok (.aload_n 0, 1) := by decide +kernel
theorem d27_8 : decode cD29 8 = .ok (.arraylength, 1) := by decide +kernel
theorem d27_9 : decode cD29 9 = .ok (.iconst 1, 1) := by decide +kernel
theorem d27_10 : decode cD29 10 = .ok (.ishr, 1) := by decide +kernel
theorem d27_11 : decode cD29 11 = .ok (.invokestatic 183, 3) := by decide +kernel
theorem d27_14 : decode cD29 14 = .ok (.istore_n 3, 1) := by decide +kernel
theorem d27_15 : decode cD29 15 = .ok (.iload_n 2, 1) := by decide +kernel
theorem d27_16 : decode cD29 16 = .ok (.iload_n 3, 1) := by decide +kernel
theorem d27_17 : decode cD29 17 = .ok (.if_icmp .lt 5, 3) := by decide +kernel
theorem d27_22 : decode cD29 22 = .ok (.iload_n 1, 1) := by decide +kernel
theorem d27_23 : decode cD29 23 = .ok (.ldc 227, 2) := by decide +kernel
theorem d27_25 : decode cD29 25 = .ok (.if_icmp .ge 11, 3) := by decide +kernel
theorem d27_28 : decode cD29 28 = .ok (.aload_n 0, 1) := by decide +kernel
theorem d27_29 : decode cD29 29 = .ok (.iload_n 1, 1) := by decide +kernel
theorem d27_30 : decode cD29 30 = .ok (.iload_n 2, 1) := by decide +kernel
theorem d27_31 : decode cD29 31 = .ok (.iload_n 3, 1) := by decide +kernel
theorem d27_32 : decode cD29 32 = .ok (.invokestatic 228, 3) := by decide +kernel
theorem d27_35 : decode cD29 35 = .ok (.ireturn, 1) := by decide +kernel
theorem pn_27 : plainName "java/lang/StringUTF16" = true := by first | (simp [plainName, overriddenIn]; done) | decide +kernel
theorem ef_rmIx4U (m : MethodId) (y0 : Addr) (y1 : Int32) : entryFrame m #[(.ref y0), (.int 0), (.int 0), (.int y1)] 4 = (mkF m 0 #[vR y0, vI 0, vI 0, vI y1] []) := by first | (simp [entryFrame, mkF, argsToLocals, Value.category]; done) | rfl
def Q_rmIx4U (Z : State) (a1 : Addr) (cs : List Int32) (k1 : ClassId) (m1 : Nat) (fm : Value) (h0 : Heap) (n0 : Nat) (v : Option Value) (h : Heap) (L : List Loc) : Prop := v = some (.int (if m1 < cs.length then Int32.ofNat m1 else (-1 : Int32))) ∧ Fr n0 L ∧ h = h0
set_option maxRecDepth 65536 in
set_option maxHeartbeats 40000000 in
theorem rmIx4U (l : Launch) (Z : State) (a0 : Array Value) (hw : ∀ d ∈ tables_1, d.before a0 Z = true) (ws : List Jvm.Cond) (a1 : Addr) (cs : List Int32) (k1 : ClassId) (m1 : Nat) (fm : Value) (h0 : Heap) (n0 : Nat) (O0 : Old Z n0 h0) (S_AD : SAD Z) (S_HI : SHI Z) (S_LO : SLO Z) (V1 : Arv Z h0 a1 k1 .byte (Int32.ofNat (2 * cs.length)) (u16 cs) (.int 0)) (hn : cs.length ≤ 257) (hcs : ∀ c ∈ cs, ¬ c < 0 ∧ ¬ (65535 : Int32) < c) (hm : m1 ≤ cs.length) (hpre : ∀ j, j < m1 → ¬ ((cs.getD j 0) = (0 : Int32))) (hend : m1 < cs.length → (cs.getD m1 0) = (0 : Int32)) (h0n : 0 < cs.length) (S_FM : SFM Z fm) (r_FM : fm.isRef = true) :
  MetFree l mN29 (head1 (Jvm.Cond.code mN29 jdk_52_method_40_code 4 (some .int) :: ws) (Rm 4 0 0 80)) (fun a U => a = #[(.ref a1), (.int 0), (.int 0), (.int (Int32.ofNat cs.length))] ∧ Z.Warmed39 U.vm ∧ U.heap = h0) (fun _ _ _ _ _ => True) (fun _ U o U' => ∃ v L, o = .returned v ∧ Q_rmIx4U Z a1 cs k1 m1 fm h0 n0 v U'.heap L ∧ FrameEnd U o U' L (Rm 4 0 0 80).cells (Rm 4 0 0 80).slots) := by
 refine MetFree.of_bodySF (plainFor_of_name pn_27) hisR ?_
 intro p e s m args below meth c s₁ Bd hml0 hP hK
 obtain ⟨rfl, hZ, hh⟩ := hP
 have hx := Bd.exec
 have hby := Bd.bytes
 have hml : c.maxLocals = 4 := hml0
 have hown : s.vm.findClass "java/lang/StringUTF16" = some m.cls := findClass_of_methodNamed Bd.named
 have hnm := (name_of_methodNamed Bd.named Bd.method).1
 have X0 : Stand p l e (Rm 4 0 0 80) s m #[(.ref a1), (.int 0), (.int 0), (.int (Int32.ofNat cs.length))] below meth c s₁ [] 0 0 := Stand.of_body Bd
 have e0 : s₁.heap = h0 := by rw [← hh, Bd.state]; rfl
 have N0 := Fr.nil n0
 have hn0 : n0 ≤ h0.size := O0.1 ▸ O0.2.1
 have pre0 : ∀ t, SS p e below s₁ m 0 #[vR a1, vI 0, vI 0, vI (Int32.ofNat cs.length)] [] t → Steps p.tables e below (s₁.setTop (entryFrame m #[(.ref a1), (.int 0), (.int 0), (.int (Int32.ofNat cs.length))] 4)) t := fun t k => castTop (ef_rmIx4U m a1 ((Int32.ofNat cs.length))) k
 have hn31 : cs.length < 2 ^ 31 := by omega
 obtain ⟨_, _, ⟨T101, L101, k101, n101⟩, -, X101, ⟨Lc101, hQ101, l101, y101, z101⟩, st101⟩ := Jvm.LawKit.callS X0 hx (y := mN15) hown (mvT hZ (tw hw 124 rfl)) (mvT hZ (tw hw 125 rfl)) (mvT hZ (tw hw 126 rfl)) (mvT hZ (tw hw 127 rfl)) (by decide) (backOf (W := 0) (rmMmax l Z a0 hw [] (0 : Int32) (0 : Int32)  h0 n0 O0 ) hZ (tw hw 127 rfl) (tw hw 126 rfl) (by decide) (by decide)) (g := (mkF m 2 #[vR a1, vI 0, vI 0, vI (Int32.ofNat cs.length)] [(.int 0), (.int 0)])) rfl (by rw [hml]; rfl) (argsL := [(.int 0), (.int 0)]) (rest := []) (lenOf pd_16 rfl) rfl (by show 2 * 0 + _ ≤ _; exact Nat.le_of_eq rfl) (hb hby d27_2) (fun _ _ => ⟨rfl, e0, (by decide : 0 + 0 ≤ _), (by decide : 0 + 0 ≤ _)⟩)
 dsimp only [Pt.U, Pt.locs, Pt.cells, Pt.slots] at X101 l101 y101 z101 st101 hQ101
 subst l101 y101 z101
 obtain ⟨rfl, N101q, H101⟩ := hQ101
 have N101 := Fr.app N0 N101q
 have hr102 : (jmax (0 : Int32) (0 : Int32)) = (0 : Int32) := by decide
 obtain ⟨cl103, Ar103, q103, S103, Nn103, H103, G103⟩ := id V1
 have hr104 : ((Int32.ofNat (2 * cs.length)) >>> ((1 : Int32) &&& 31)) = (Int32.ofNat cs.length) := own_shr1 (by omega)
 obtain ⟨_, _, ⟨T105, L105, k105, n105⟩, -, X105, ⟨Lc105, hQ105, l105, y105, z105⟩, st105⟩ := Jvm.LawKit.callS X101 hx (y := mN16) hown (mvT hZ (tw hw 128 rfl)) (mvT hZ (tw hw 129 rfl)) (mvT hZ (tw hw 126 rfl)) (mvT hZ (tw hw 130 rfl)) (by decide) (backOf (W := 0) (rmMmin l Z a0 hw [] (Int32.ofNat cs.length) (Int32.ofNat cs.length)  h0 n0 O0 ) hZ (tw hw 130 rfl) (tw hw 126 rfl) (by decide) (by decide)) (g := (mkF m 11 #[vR a1, vI 0, vI 0, vI (Int32.ofNat cs.length)] [(.int (Int32.ofNat cs.length)), (.int (Int32.ofNat cs.length))])) rfl (by rw [hml]; rfl) (argsL := [(.int (Int32.ofNat cs.length)), (.int (Int32.ofNat cs.length))]) (rest := []) (lenOf pd_16 rfl) rfl (by show 2 * 0 + _ ≤ _; exact Nat.le_of_eq rfl) (hb hby d27_11) (fun _ _ => ⟨rfl, H101, (by decide : 0 + 0 ≤ _), (by decide : 0 + 0 ≤ _)⟩)
 dsimp only [Pt.U, Pt.locs, Pt.cells, Pt.slots] at X105 l105 y105 z105 st105 hQ105
 subst l105 y105 z105
 obtain ⟨rfl, N105q, H105⟩ := hQ105
 have N105 := Fr.app N101 N105q
 have hr106 : (jmin (Int32.ofNat cs.length) (Int32.ofNat cs.length)) = (Int32.ofNat cs.length) := ite_self _
 obtain ⟨_, _, ⟨T107, L107, k107, n107⟩, -, X107, ⟨Lc107, hQ107, l107, y107, z107⟩, st107⟩ := Jvm.LawKit.callS X105 hx (y := mN28) hown (mvT hZ (tw hw 132 rfl)) (mvT hZ (tw hw 133 rfl)) (mvT hZ (tw hw 43 rfl)) (mvT hZ (tw hw 134 rfl)) (by decide) (backOf (W := 0) (rmIxcU l Z a0 hw [] a1 cs k1 m1 fm h0 n0 O0 S_AD S_HI S_LO V1 hn hcs hm hpre hend h0n S_FM r_FM) hZ (tw hw 134 rfl) (tw hw 43 rfl) (by decide) (by decide)) (g := (mkF m 32 #[vR a1, vI 0, vI 0, vI (Int32.ofNat cs.length)] [(.int (Int32.ofNat cs.length)), (.int 0), (.int 0), (.ref a1)])) rfl (by rw [hml]; rfl) (argsL := [(.ref a1), (.int 0), (.int 0), (.int (Int32.ofNat cs.length))]) (rest := []) (lenOf pd_22 rfl) rfl (by show 2 * 0 + _ ≤ _; exact Nat.le_of_eq rfl) (hb hby d27_32) (fun _ _ => ⟨rfl, H105, (by decide : 0 + 0 ≤ _), (by decide : 0 + 0 ≤ _)⟩)
 dsimp only [Pt.U, Pt.locs, Pt.cells, Pt.slots] at X107 l107 y107 z107 st107 hQ107
 subst l107 y107 z107
 obtain ⟨rfl, N107q, H107⟩ := hQ107
 have N107 := Fr.app N105 N107q
 obtain ⟨fs, hr, hrun, hended, hW, hsame⟩ := X107.leave (v := some (.int (if m1 < cs.length then Int32.ofNat m1 else (-1 : Int32)))) (fun h => by rw [Bd.returns] at h; cases h)
 refine ⟨_, _, pre0 _ ?_, hrun, hended, _, _, rfl, ?_, ⟨_, rfl⟩, hW, hsame.mono (by decide) (by decide)⟩
 ·skip
  show SS p e below s₁ m 0 #[vR a1, vI 0, vI 0, vI (Int32.ofNat cs.length)] [] _
  refine XS.iloadN X0.here hx rfl (hb hby d27_0) rfl ?_
  refine XS.iconst X0.here hx rfl (hb hby d27_1) ?_
  show SS p e below s₁ m 2 #[vR a1, vI 0, vI 0, vI (Int32.ofNat cs.length)] [(.int 0), (.int 0)] _
  refine st101 _ ?_
  show SS p e below T101 m 5 #[vR a1, vI 0, vI 0, vI (Int32.ofNat cs.length)] [(.int (jmax (0 : Int32) (0 : Int32)))] _
  rw [hr102]
  refine XS.istoreN X101.here hx rfl (hb hby d27_5) rfl (l' := #[vR a1, vI 0, vI 0, vI (Int32.ofNat cs.length)]) rfl ?_
  refine XS.iloadN X101.here hx rfl (hb hby d27_6) rfl ?_
  refine XS.aloadN X101.here hx rfl (hb hby d27_7) rfl rfl ?_
  show SS p e below T101 m 8 #[vR a1, vI 0, vI 0, vI (Int32.ofNat cs.length)] [(.ref a1), (.int (Int32.ofNat cs.length))] _
  refine X101.arraylength hx (by rw [H101]; exact Ar103.1) (State.isArrayOf_alike hZ.alike Ar103.2.1) (g := (mkF m 8 #[vR a1, vI 0, vI 0, vI (Int32.ofNat cs.length)] [(.ref a1), (.int (Int32.ofNat cs.length))])) rfl rfl (hb hby d27_8) _ ?_
  rw [len_of S103 Nn103]
  refine XS.iconst X101.here hx rfl (hb hby d27_9) ?_
  show SS p e below T101 m 10 #[vR a1, vI 0, vI 0, vI (Int32.ofNat cs.length)] [(.int 1), (.int (Int32.ofNat (2 * cs.length))), (.int (Int32.ofNat cs.length))] _
  refine XS.ishr X101.here hx rfl (hb hby d27_10) rfl ?_
  show SS p e below T101 m 11 #[vR a1, vI 0, vI 0, vI (Int32.ofNat cs.length)] [(.int ((Int32.ofNat (2 * cs.length)) >>> ((1 : Int32) &&& 31))), (.int (Int32.ofNat cs.length))] _
  rw [hr104]
  show SS p e below T101 m 11 #[vR a1, vI 0, vI 0, vI (Int32.ofNat cs.length)] [(.int (Int32.ofNat cs.length)), (.int (Int32.ofNat cs.length))] _
  refine st105 _ ?_
  show SS p e below T105 m 14 #[vR a1, vI 0, vI 0, vI (Int32.ofNat cs.length)] [(.int (jmin (Int32.ofNat cs.length) (Int32.ofNat cs.length)))] _
  rw [hr106]
  refine XS.istoreN X105.here hx rfl (hb hby d27_14) rfl (l' := #[vR a1, vI 0, vI 0, vI (Int32.ofNat cs.length)]) rfl ?_
  refine XS.iloadN X105.here hx rfl (hb hby d27_15) rfl ?_
  refine XS.iloadN X105.here hx rfl (hb hby d27_16) rfl ?_
  refine XS.icmpYes X105.here hx rfl (pc0 := 17) (pc' := 22) rfl (hb hby d27_17) rfl (tlt ((own_lt (i := 0) (by decide) hn31).mpr h0n : (0 : Int32) < (Int32.ofNat cs.length))).1 (by decide) (by decide) ?_
  refine XS.iloadN X105.here hx rfl (hb hby d27_22) rfl ?_
  show SS p e below T105 m 23 #[vR a1, vI 0, vI 0, vI (Int32.ofNat cs.length)] [(.int 0)] _
  refine X105.ldcInt hx hown (mvT hZ (tw hw 131 rfl)) (g := (mkF m 23 #[vR a1, vI 0, vI 0, vI (Int32.ofNat cs.length)] [(.int 0)])) rfl (hb hby d27_23) _ ?_
  refine XS.icmpNo X105.here hx rfl (hb hby d27_25) rfl (tlt (by decide : (0 : Int32) < (65536 : Int32))).2.1 ?_
  refine XS.aloadN X105.here hx rfl (hb hby d27_28) rfl rfl ?_
  refine XS.iloadN X105.here hx rfl (hb hby d27_29) rfl ?_
  refine XS.iloadN X105.here hx rfl (hb hby d27_30) rfl ?_
  refine XS.iloadN X105.here hx rfl (hb hby d27_31) rfl ?_
  show SS p e below T105 m 32 #[vR a1, vI 0, vI 0, vI (Int32.ofNat cs.length)] [(.int (Int32.ofNat cs.length)), (.int 0), (.int 0), (.ref a1)] _
  refine st107 _ ?_
  show SS p e below T107 m 35 #[vR a1, vI 0, vI 0, vI (Int32.ofNat cs.length)] [(.int (if m1 < cs.length then Int32.ofNat m1 else (-1 : Int32)))] _
  exact retI X107 hx Bd.returns (hb hby d27_35) hr
 ·show Q_rmIx4U Z a1 cs k1 m1 fm h0 n0 _ T107.heap _
  rw [H107]
  exact ⟨rfl, N107, rfl⟩
theorem d26_0 : decode cD30 0 = .ok (.aload_n 0, 1) := by decide +kernel
theorem d26_1 : decode cD30 1 = .ok (.invokevirtual 492, 3) := by decide +kernel
theorem d26_4 : decode cD30 4 = .ok (.ifCond .eq 19, 3) := by decide +kernel
theorem d26_7 : decode cD30 7 = .ok (.aload_n 0, 1) := by decide +kernel
theorem d26_8 : decode cD30 8 = .ok (.getfield 9, 3) := by decide +kernel
theorem d26_11 : decode cD30 11 = .ok (.iload_n 1, 1) := by decide +kernel
theorem d26_12 : decode cD30 12 = .ok (.iload_n 2, 1) := by decide +kernel
theorem d26_13 : decode cD30 13 = .ok (.aload_n 0, 1) := by decide +kernel
theorem d26_14 : decode cD30 14 = .ok (.invokevirtual 505, 3) := by decide +kernel
theorem d26_17 : decode cD30 17 = .ok (.invokestatic 637, 3) := by decide +kernel
theorem d26_20 : decode cD30 20 = .ok (.goto 16, 3) := by decide +kernel
theorem d26_36 : decode cD30 36 = .ok (.ireturn, 1) := by decide +kernel
theorem pn_26 : plainName "java/lang/String" = true := by first | (simp [plainName, overriddenIn]; done) | decide +kernel
theorem pd_6 : parseMethodDescriptor "()Z" = some ⟨[], some .boolean⟩ := by decide +kernel
theorem pd_14 : parseMethodDescriptor "()I" = some ⟨[], some .int⟩ := by decide +kernel
theorem ef_rmIx2L (m : MethodId) (y0 : Addr) : entryFrame m #[(.ref y0), (.int 0), (.int 0)] 3 = (mkF m 0 #[vR y0, vI 0, vI 0] []) := by first | (simp [entryFrame, mkF, argsToLocals, Value.category]; done) | rfl
def Q_rmIx2L (Z : State) (a1 : Addr) (bs : List Int32) (t1 : Addr) (k1 : ClassId) (cs0 : Int32) (m1 : Nat) (h0 : Heap) (n0 : Nat) (v : Option Value) (h : Heap) (L : List Loc) : Prop := v = some (.int (if m1 < bs.length then Int32.ofNat m1 else (-1 : Int32))) ∧ Fr n0 L ∧ h = h0
set_option maxRecDepth 65536 in
set_option maxHeartbeats 40000000 in
theorem rmIx2L (l : Launch) (Z : State) (a0 : Array Value) (hw : ∀ d ∈ tables_1, d.before a0 Z = true) (ws : List Jvm.Cond) (a1 : Addr) (bs : List Int32) (t1 : Addr) (k1 : ClassId) (cs0 : Int32) (m1 : Nat) (h0 : Heap) (n0 : Nat) (O0 : Old Z n0 h0) (S_CS : SCS Z cs0) (c_CS : ¬ (cs0 = (0 : Int32))) (E1 : Exa Z h0 a1 "java/lang/String") (F1 : Fld Z h0 a1 "java/lang/String" "value" "[B" (.ref t1)) (F2 : Fld Z h0 a1 "java/lang/String" "coder" "B" (.int 0)) (V1 : Arv Z h0 t1 k1 .byte (Int32.ofNat bs.length) (bs.map Value.int) (.int 0)) (hn : bs.length ≤ 257) (h0n : 0 < bs.length) (hm : m1 ≤ bs.length) (hpre : ∀ j, j < m1 → ¬ ((bs.getD j 0) = (0 : Int32))) (hend : m1 < bs.length → (bs.getD m1 0) = (0 : Int32)) :
  MetFree l mN30 (head1 (Jvm.Cond.code mN30 jdk_42_method_80_code 3 (some .int) :: ws) (Rm 5 0 0 110)) (fun a U => a = #[(.ref a1), (.int 0), (.int 0)] ∧ Z.Warmed39 U.vm ∧ U.heap = h0) (fun _ _ _ _ _ => True) (fun _ U o U' => ∃ v L, o = .returned v ∧ Q_rmIx2L Z a1 bs t1 k1 cs0 m1 h0 n0 v U'.heap L ∧ FrameEnd U o U' L (Rm 5 0 0 110).cells (Rm 5 0 0 110).slots) := by
 refine MetFree.of_bodySF (plainFor_of_name pn_26) hisR ?_
 intro p e s m args below meth c s₁ Bd hml0 hP hK
 obtain ⟨rfl, hZ, hh⟩ := hP
 have hx := Bd.exec
 have hby := Bd.bytes
 have hml : c.maxLocals = 3 := hml0
 have hown : s.vm.findClass "java/lang/String" = some m.cls := findClass_of_methodNamed Bd.named
 have hnm := (name_of_methodNamed Bd.named Bd.method).1
 have X0 : Stand p l e (Rm 5 0 0 110) s m #[(.ref a1), (.int 0), (.int 0)] below meth c s₁ [] 0 0 := Stand.of_body Bd
 have e0 : s₁.heap = h0 := by rw [← hh, Bd.state]; rfl
 have N0 := Fr.nil n0
 have hn0 : n0 ≤ h0.size := O0.1 ▸ O0.2.1
 have pre0 : ∀ t, SS p e below s₁ m 0 #[vR a1, vI 0, vI 0] [] t → Steps p.tables e below (s₁.setTop (entryFrame m #[(.ref a1), (.int 0), (.int 0)] 3)) t := fun t k => castTop (ef_rmIx2L m a1) k
 have hn31 : bs.length < 2 ^ 31 := by omega
 obtain ⟨cq101, kq101, q101a, q101b, q101c⟩ := isOf hZ e0 E1
 obtain ⟨_, _, ⟨T101, L101, k101, n101⟩, -, X101, ⟨Lc101, hQ101, l101, y101, z101⟩, st101⟩ := X0.virtualBack hx (y := mN11) (z := mN11) hown (mvT hZ (tw hw 94 rfl)) (mvT hZ (tw hw 95 rfl)) (notFace_of_selects (args := #[]) (mvT hZ (tw hw 97 rfl))) (mvT hZ (tw hw 97 rfl)) (mvT hZ (tw hw 96 rfl)) (by decide) (backOf (W := 0) (rmIsLatL l Z a0 hw [] a1 bs t1 k1 cs0 h0 n0 O0 S_CS c_CS E1 F1 F2 V1 hn) hZ (tw hw 98 rfl) (tw hw 11 rfl) (by decide) (by decide)) q101a q101c (g := (mkF m 1 #[vR a1, vI 0, vI 0] [(.ref a1)])) rfl (by rw [hml]; rfl) (Steps.refl _) (argsL := []) (rest := []) (lenOf pd_6 rfl) rfl (by show 2 * 0 + _ ≤ _; exact Nat.le_of_eq rfl) (hb hby d26_1) (fun _ _ => ⟨rfl, e0, (by decide : 0 + 0 ≤ _), (by decide : 0 + 0 ≤ _)⟩)
 dsimp only [Pt.U, Pt.locs, Pt.cells, Pt.slots] at X101 l101 y101 z101 st101 hQ101
 subst l101 y101 z101
 obtain ⟨rfl, N101q, H101⟩ := hQ101
 have N101 := Fr.app N0 N101q
 obtain ⟨T102, X102, e102, st102⟩ := getF X101 hx hZ hown (host := "") (Or.inl (tw hw 29 rfl)) Via.refl H101 F1 (g := (mkF m 8 #[vR a1, vI 0, vI 0] [(.ref a1)])) rfl rfl (hb hby d26_8)
 obtain ⟨cq103, kq103, q103a, q103b, q103c⟩ := isOf hZ e102 E1
 obtain ⟨_, _, ⟨T103, L103, k103, n103⟩, -, X103, ⟨Lc103, hQ103, l103, y103, z103⟩, st103⟩ := X102.virtualBack hx (y := mN12) (z := mN12) hown (mvT hZ (tw hw 85 rfl)) (mvT hZ (tw hw 71 rfl)) (notFace_of_selects (args := #[]) (mvT hZ (tw hw 73 rfl))) (mvT hZ (tw hw 73 rfl)) (mvT hZ (tw hw 72 rfl)) (by decide) (backOf (W := 3) (rmLenL l Z a0 hw [] a1 bs t1 k1 cs0 h0 n0 O0 S_CS c_CS E1 F1 F2 V1 hn) hZ (tw hw 74 rfl) (tw hw 11 rfl) (by decide) (by decide)) q103a q103c (g := (mkF m 14 #[vR a1, vI 0, vI 0] [(.ref a1), (.int 0), (.int 0), (.ref t1)])) rfl (by rw [hml]; rfl) (Steps.refl _) (argsL := []) (rest := [(.int 0), (.int 0), (.ref t1)]) (lenOf pd_14 rfl) rfl (by show 2 * 0 + _ ≤ _; exact Nat.le_of_eq rfl) (hb hby d26_14) (fun _ _ => ⟨rfl, e102, (by decide : 0 + 0 ≤ _), (by decide : 0 + 0 ≤ _)⟩)
 dsimp only [Pt.U, Pt.locs, Pt.cells, Pt.slots] at X103 l103 y103 z103 st103 hQ103
 subst l103 y103 z103
 obtain ⟨rfl, N103q, H103⟩ := hQ103
 have N103 := Fr.app N101 N103q
 obtain ⟨_, _, ⟨T104, L104, k104, n104⟩, -, X104, ⟨Lc104, hQ104, l104, y104, z104⟩, st104⟩ := Jvm.LawKit.callS X103 hx (y := mN27) hown (mvT hZ (tw hw 161 rfl)) (mvT hZ (tw hw 162 rfl)) (mvT hZ (tw hw 163 rfl)) (mvT hZ (tw hw 164 rfl)) (by decide) (backOf (W := 0) (rmIx4L l Z a0 hw [] t1 bs k1 m1 h0 n0 O0 V1 hn hm hpre hend h0n) hZ (tw hw 164 rfl) (tw hw 163 rfl) (by decide) (by decide)) (g := (mkF m 17 #[vR a1, vI 0, vI 0] [(.int (Int32.ofNat bs.length)), (.int 0), (.int 0), (.ref t1)])) rfl (by rw [hml]; rfl) (argsL := [(.ref t1), (.int 0), (.int 0), (.int (Int32.ofNat bs.length))]) (rest := []) (lenOf pd_22 rfl) rfl (by show 2 * 0 + _ ≤ _; exact Nat.le_of_eq rfl) (hb hby d26_17) (fun _ _ => ⟨rfl, H103, (by decide : 0 + 0 ≤ _), (by decide : 0 + 0 ≤ _)⟩)
 dsimp only [Pt.U, Pt.locs, Pt.cells, Pt.slots] at X104 l104 y104 z104 st104 hQ104
 subst l104 y104 z104
 obtain ⟨rfl, N104q, H104⟩ := hQ104
 have N104 := Fr.app N103 N104q
 obtain ⟨fs, hr, hrun, hended, hW, hsame⟩ := X104.leave (v := some (.int (if m1 < bs.length then Int32.ofNat m1 else (-1 : Int32)))) (fun h => by rw [Bd.returns] at h; cases h)
 refine ⟨_, _, pre0 _ ?_, hrun, hended, _, _, rfl, ?_, ⟨_, rfl⟩, hW, hsame.mono (by decide) (by decide)⟩
 ·skip
  show SS p e below s₁ m 0 #[vR a1, vI 0, vI 0] [] _
  refine XS.aloadN X0.here hx rfl (hb hby d26_0) rfl rfl ?_
  show SS p e below s₁ m 1 #[vR a1, vI 0, vI 0] [(.ref a1)] _
  refine st101.trans ?_
  refine XS.ifNo X101.here hx rfl (hb hby d26_4) rfl ((if0 _ _).trans (feq (by decide : ¬ ((1 : Int32) = (0 : Int32)))).1) ?_
  refine XS.aloadN X101.here hx rfl (hb hby d26_7) rfl rfl ?_
  show SS p e below T101 m 8 #[vR a1, vI 0, vI 0] [(.ref a1)] _
  refine st102 _ ?_
  refine XS.iloadN X102.here hx rfl (hb hby d26_11) rfl ?_
  refine XS.iloadN X102.here hx rfl (hb hby d26_12) rfl ?_
  refine XS.aloadN X102.here hx rfl (hb hby d26_13) rfl rfl ?_
  show SS p e below T102 m 14 #[vR a1, vI 0, vI 0] [(.ref a1), (.int 0), (.int 0), (.ref t1)] _
  refine st103.trans ?_
  show SS p e below T103 m 17 #[vR a1, vI 0, vI 0] [(.int (Int32.ofNat bs.length)), (.int 0), (.int 0), (.ref t1)] _
  refine st104 _ ?_
  refine XS.goto X104.here hx rfl (pc0 := 20) (pc' := 36) rfl (hb hby d26_20) (by decide) (by decide) ?_
  show SS p e below T104 m 36 #[vR a1, vI 0, vI 0] [(.int (if m1 < bs.length then Int32.ofNat m1 else (-1 : Int32)))] _
  exact retI X104 hx Bd.returns (hb hby d26_36) hr
 ·show Q_rmIx2L Z a1 bs t1 k1 cs0 m1 h0 n0 _ T104.heap _
  rw [H104]
  exact ⟨rfl, N104, rfl⟩
theorem d25_0 : decode cD31 0 = .ok (.aload_n 0, 1) := by decide +kernel
theorem d25_1 : decode cD31 1 = .ok (.iload_n 1, 1) := by decide +kernel
theorem d25_2 : decode cD31 2 = .ok (.iconst 0, 1) := by decide +kernel
theorem d25_3 : decode cD31 3 = .ok (.invokevirtual 633, 3) := by decide +kernel
theorem d25_6 : decode cD31 6 = .ok (.ireturn, 1) := by decide +kernel
theorem pn_25 : plainName "java/lang/String" = true := by first | (simp [plainName, overriddenIn]; done) | decide +kernel
theorem ef_rmIx1L (m : MethodId) (y0 : Addr) : entryFrame m #[(.ref y0), (.int 0)] 2 = (mkF m 0 #[vR y0, vI 0] []) := by first | (simp [entryFrame, mkF, argsToLocals, Value.category]; done) | rfl
def Q_rmIx1L (Z : State) (a1 : Addr) (bs : List Int32) (t1 : Addr) (k1 : ClassId) (cs0 : Int32) (m1 : Nat) (h0 : Heap) (n0 : Nat) (v : Option Value) (h : Heap) (L : List Loc) : Prop := v = some (.int (if m1 < bs.length then Int32.ofNat m1 else (-1 : Int32))) ∧ Fr n0 L ∧ h = h0
set_option maxRecDepth 65536 in
set_option maxHeartbeats 40000000 in
theorem rmIx1L (l : Launch) (Z : State) (a0 : Array Value) (hw : ∀ d ∈ tables_1, d.before a0 Z = true) (ws : List Jvm.Cond) (a1 : Addr) (bs : List Int32) (t1 : Addr) (k1 : ClassId) (cs0 : Int32) (m1 : Nat) (h0 : Heap) (n0 : Nat) (O0 : Old Z n0 h0) (S_CS : SCS Z cs0) (c_CS : ¬ (cs0 = (0 : Int32))) (E1 : Exa Z h0 a1 "java/lang/String") (F1 : Fld Z h0 a1 "java/lang/String" "value" "[B" (.ref t1)) (F2 : Fld Z h0 a1 "java/lang/String" "coder" "B" (.int 0)) (V1 : Arv Z h0 t1 k1 .byte (Int32.ofNat bs.length) (bs.map Value.int) (.int 0)) (hn : bs.length ≤ 257) (h0n : 0 < bs.length) (hm : m1 ≤ bs.length) (hpre : ∀ j, j < m1 → ¬ ((bs.getD j 0) = (0 : Int32))) (hend : m1 < bs.length → (bs.getD m1 0) = (0 : Int32)) :
  MetFree l mN31 (head1 (Jvm.Cond.code mN31 jdk_42_method_79_code 2 (some .int) :: ws) (Rm 6 0 0 130)) (fun a U => a = #[(.ref a1), (.int 0)] ∧ Z.Warmed39 U.vm ∧ U.heap = h0) (fun _ _ _ _ _ => True) (fun _ U o U' => ∃ v L, o = .returned v ∧ Q_rmIx1L Z a1 bs t1 k1 cs0 m1 h0 n0 v U'.heap L ∧ FrameEnd U o U' L (Rm 6 0 0 130).cells (Rm 6 0 0 130).slots) := by
 refine MetFree.of_bodySF (plainFor_of_name pn_25) hisR ?_
 intro p e s m args below meth c s₁ Bd hml0 hP hK
 obtain ⟨rfl, hZ, hh⟩ := hP
 have hx := Bd.exec
 have hby := Bd.bytes
 have hml : c.maxLocals = 2 := hml0
 have hown : s.vm.findClass "java/lang/String" = some m.cls := findClass_of_methodNamed Bd.named
 have hnm := (name_of_methodNamed Bd.named Bd.method).1
 have X0 : Stand p l e (Rm 6 0 0 130) s m #[(.ref a1), (.int 0)] below meth c s₁ [] 0 0 := Stand.of_body Bd
 have e0 : s₁.heap = h0 := by rw [← hh, Bd.state]; rfl
 have N0 := Fr.nil n0
 have hn0 : n0 ≤ h0.size := O0.1 ▸ O0.2.1
 have pre0 : ∀ t, SS p e below s₁ m 0 #[vR a1, vI 0] [] t → Steps p.tables e below (s₁.setTop (entryFrame m #[(.ref a1), (.int 0)] 2)) t := fun t k => castTop (ef_rmIx1L m a1) k
 have hn31 : bs.length < 2 ^ 31 := by omega
 obtain ⟨cq101, kq101, q101a, q101b, q101c⟩ := isOf hZ e0 E1
 obtain ⟨_, _, ⟨T101, L101, k101, n101⟩, -, X101, ⟨Lc101, hQ101, l101, y101, z101⟩, st101⟩ := X0.virtualBack hx (y := mN30) (z := mN30) hown (mvT hZ (tw hw 116 rfl)) (mvT hZ (tw hw 117 rfl)) (notFace_of_selects (args := #[]) (mvT hZ (tw hw 119 rfl))) (mvT hZ (tw hw 119 rfl)) (mvT hZ (tw hw 118 rfl)) (by decide) (backOf (W := 0) (rmIx2L l Z a0 hw [] a1 bs t1 k1 cs0 m1 h0 n0 O0 S_CS c_CS E1 F1 F2 V1 hn h0n hm hpre hend) hZ (tw hw 120 rfl) (tw hw 11 rfl) (by decide) (by decide)) q101a q101c (g := (mkF m 3 #[vR a1, vI 0] [(.int 0), (.int 0), (.ref a1)])) rfl (by rw [hml]; rfl) (Steps.refl _) (argsL := [(.int 0), (.int 0)]) (rest := []) (lenOf pd_16 rfl) rfl (by show 2 * 0 + _ ≤ _; exact Nat.le_of_eq rfl) (hb hby d25_3) (fun _ _ => ⟨rfl, e0, (by decide : 0 + 0 ≤ _), (by decide : 0 + 0 ≤ _)⟩)
 dsimp only [Pt.U, Pt.locs, Pt.cells, Pt.slots] at X101 l101 y101 z101 st101 hQ101
 subst l101 y101 z101
 obtain ⟨rfl, N101q, H101⟩ := hQ101
 have N101 := Fr.app N0 N101q
 obtain ⟨fs, hr, hrun, hended, hW, hsame⟩ := X101.leave (v := some (.int (if m1 < bs.length then Int32.ofNat m1 else (-1 : Int32)))) (fun h => by rw [Bd.returns] at h; cases h)
 refine ⟨_, _, pre0 _ ?_, hrun, hended, _, _, rfl, ?_, ⟨_, rfl⟩, hW, hsame.mono (by decide) (by decide)⟩
 ·skip
  show SS p e below s₁ m 0 #[vR a1, vI 0] [] _
  refine XS.aloadN X0.here hx rfl (hb hby d25_0) rfl rfl ?_
  refine XS.iloadN X0.here hx rfl (hb hby d25_1) rfl ?_
  refine XS.iconst X0.here hx rfl (hb hby d25_2) ?_
  show SS p e below s₁ m 3 #[vR a1, vI 0] [(.int 0), (.int 0), (.ref a1)] _
  refine st101.trans ?_
  show SS p e below T101 m 6 #[vR a1, vI 0] [(.int (if m1 < bs.length then Int32.ofNat m1 else (-1 : Int32)))] _
  exact retI X101 hx Bd.returns (hb hby d25_6) hr
 ·show Q_rmIx1L Z a1 bs t1 k1 cs0 m1 h0 n0 _ T101.heap _
  rw [H101]
  exact ⟨rfl, N101, rfl⟩
theorem d18_0 : decode cD32 0 = .ok (.iload_n 1, 1) := by decide +kernel
theorem d18_1 : decode cD32 1 = .ok (.iload_n 2, 1) := by decide +kernel
theorem d18_2 : decode cD32 2 = .ok (.aload_n 0, 1) := by decide +kernel
theorem d18_3 : decode cD32 3 = .ok (.invokevirtual 505, 3) := by decide +kernel
theorem d18_6 : decode cD32 6 = .ok (.invokestatic 511, 3) := by decide +kernel
theorem d18_9 : decode cD32 9 = .ok (.pop, 1) := by decide +kernel
theorem d18_10 : decode cD32 10 = .ok (.aload_n 0, 1) := by decide +kernel
theorem d18_11 : decode cD32 11 = .ok (.invokevirtual 492, 3) := by decide +kernel
theorem d18_14 : decode cD32 14 = .ok (.ifCond .eq 7, 3) := by decide +kernel
theorem d18_17 : decode cD32 17 = .ok (.iload_n 2, 1) := by decide +kernel
theorem d18_18 : decode cD32 18 = .ok (.iload_n 1, 1) := by decide +kernel
theorem d18_19 : decode cD32 19 = .ok (.isub, 1) := by decide +kernel
theorem d18_20 : decode cD32 20 = .ok (.ireturn, 1) := by decide +kernel
theorem pn_18 : plainName "java/lang/String" = true := by first | (simp [plainName, overriddenIn]; done) | decide +kernel
theorem pd_17 : parseMethodDescriptor "(III)I" = some ⟨[.int, .int, .int], some .int⟩ := by decide +kernel
theorem ef_rmCpcL (m : MethodId) (y0 : Addr) (y1 : Int32) : entryFrame m #[(.ref y0), (.int 0), (.int y1)] 3 = (mkF m 0 #[vR y0, vI 0, vI y1] []) := by first | (simp [entryFrame, mkF, argsToLocals, Value.category]; done) | rfl
def Q_rmCpcL (Z : State) (a1 : Addr) (bs : List Int32) (t1 : Addr) (k1 : ClassId) (cs0 : Int32) (h0 : Heap) (n0 : Nat) (v : Option Value) (h : Heap) (L : List Loc) : Prop := v = some (.int (Int32.ofNat bs.length)) ∧ Fr n0 L ∧ h = h0
set_option maxRecDepth 65536 in
set_option maxHeartbeats 40000000 in
theorem rmCpcL (l : Launch) (Z : State) (a0 : Array Value) (hw : ∀ d ∈ tables_1, d.before a0 Z = true) (ws : List Jvm.Cond) (a1 : Addr) (bs : List Int32) (t1 : Addr) (k1 : ClassId) (cs0 : Int32) (h0 : Heap) (n0 : Nat) (O0 : Old Z n0 h0) (S_CS : SCS Z cs0) (c_CS : ¬ (cs0 = (0 : Int32))) (E1 : Exa Z h0 a1 "java/lang/String") (F1 : Fld Z h0 a1 "java/lang/String" "value" "[B" (.ref t1)) (F2 : Fld Z h0 a1 "java/lang/String" "coder" "B" (.int 0)) (V1 : Arv Z h0 t1 k1 .byte (Int32.ofNat bs.length) (bs.map Value.int) (.int 0)) (hn : bs.length ≤ 257) (h0n : 0 < bs.length) :
  MetFree l mN32 (head1 (Jvm.Cond.code mN32 jdk_42_method_59_code 3 (some .int) :: ws) (Rm 3 0 0 70)) (fun a U => a = #[(.ref a1), (.int 0), (.int (Int32.ofNat bs.length))] ∧ Z.Warmed39 U.vm ∧ U.heap = h0) (fun _ _ _ _ _ => True) (fun _ U o U' => ∃ v L, o = .returned v ∧ Q_rmCpcL Z a1 bs t1 k1 cs0 h0 n0 v U'.heap L ∧ FrameEnd U o U' L (Rm 3 0 0 70).cells (Rm 3 0 0 70).slots) := by
 refine MetFree.of_bodySF (plainFor_of_name pn_18) hisR ?_
 intro p e s m args below meth c s₁ Bd hml0 hP hK
 obtain ⟨rfl, hZ, hh⟩ := hP
 have hx := Bd.exec
 have hby := Bd.bytes
 have hml : c.maxLocals = 3 := hml0
 have hown : s.vm.findClass "java/lang/String" = some m.cls := findClass_of_methodNamed Bd.named
 have hnm := (name_of_methodNamed Bd.named Bd.method).1
 have X0 : Stand p l e (Rm 3 0 0 70) s m #[(.ref a1), (.int 0), (.int (Int32.ofNat bs.length))] below meth c s₁ [] 0 0 := Stand.of_body Bd
 have e0 : s₁.heap = h0 := by rw [← hh, Bd.state]; rfl
 have N0 := Fr.nil n0
 have hn0 : n0 ≤ h0.size := O0.1 ▸ O0.2.1
 have pre0 : ∀ t, SS p e below s₁ m 0 #[vR a1, vI 0, vI (Int32.ofNat bs.length)] [] t → Steps p.tables e below (s₁.setTop (entryFrame m #[(.ref a1), (.int 0), (.int (Int32.ofNat bs.length))] 3)) t := fun t k => castTop (ef_rmCpcL m a1 ((Int32.ofNat bs.length))) k
 have hn31 : bs.length < 2 ^ 31 := by omega
 obtain ⟨cq101, kq101, q101a, q101b, q101c⟩ := isOf hZ e0 E1
 obtain ⟨_, _, ⟨T101, L101, k101, n101⟩, -, X101, ⟨Lc101, hQ101, l101, y101, z101⟩, st101⟩ := X0.virtualBack hx (y := mN12) (z := mN12) hown (mvT hZ (tw hw 85 rfl)) (mvT hZ (tw hw 71 rfl)) (notFace_of_selects (args := #[]) (mvT hZ (tw hw 73 rfl))) (mvT hZ (tw hw 73 rfl)) (mvT hZ (tw hw 72 rfl)) (by decide) (backOf (W := 2) (rmLenL l Z a0 hw [] a1 bs t1 k1 cs0 h0 n0 O0 S_CS c_CS E1 F1 F2 V1 hn) hZ (tw hw 74 rfl) (tw hw 11 rfl) (by decide) (by decide)) q101a q101c (g := (mkF m 3 #[vR a1, vI 0, vI (Int32.ofNat bs.length)] [(.ref a1), (.int (Int32.ofNat bs.length)), (.int 0)])) rfl (by rw [hml]; rfl) (Steps.refl _) (argsL := []) (rest := [(.int (Int32.ofNat bs.length)), (.int 0)]) (lenOf pd_14 rfl) rfl (by show 2 * 0 + _ ≤ _; exact Nat.le_of_eq rfl) (hb hby d18_3) (fun _ _ => ⟨rfl, e0, (by decide : 0 + 0 ≤ _), (by decide : 0 + 0 ≤ _)⟩)
 dsimp only [Pt.U, Pt.locs, Pt.cells, Pt.slots] at X101 l101 y101 z101 st101 hQ101
 subst l101 y101 z101
 obtain ⟨rfl, N101q, H101⟩ := hQ101
 have N101 := Fr.app N0 N101q
 obtain ⟨_, _, ⟨T102, L102, k102, n102⟩, -, X102, ⟨Lc102, hQ102, l102, y102, z102⟩, st102⟩ := Jvm.LawKit.callS X101 hx (y := mN18) hown (mvT hZ (tw hw 86 rfl)) (mvT hZ (tw hw 87 rfl)) (mvT hZ (tw hw 88 rfl)) (mvT hZ (tw hw 89 rfl)) (by decide) (backOf (W := 0) (rmOcft l Z a0 hw [] (0 : Int32) (Int32.ofNat bs.length) (Int32.ofNat bs.length)  h0 n0 O0 (by decide) (own_nn hn31) (fun q => Nat.lt_irrefl _ ((own_lt hn31 hn31).mp q))) hZ (tw hw 89 rfl) (tw hw 88 rfl) (by decide) (by decide)) (g := (mkF m 6 #[vR a1, vI 0, vI (Int32.ofNat bs.length)] [(.int (Int32.ofNat bs.length)), (.int (Int32.ofNat bs.length)), (.int 0)])) rfl (by rw [hml]; rfl) (argsL := [(.int 0), (.int (Int32.ofNat bs.length)), (.int (Int32.ofNat bs.length))]) (rest := []) (lenOf pd_17 rfl) rfl (by show 2 * 0 + _ ≤ _; exact Nat.le_of_eq rfl) (hb hby d18_6) (fun _ _ => ⟨rfl, H101, (by decide : 0 + 0 ≤ _), (by decide : 0 + 0 ≤ _)⟩)
 dsimp only [Pt.U, Pt.locs, Pt.cells, Pt.slots] at X102 l102 y102 z102 st102 hQ102
 subst l102 y102 z102
 obtain ⟨rfl, N102q, H102⟩ := hQ102
 have N102 := Fr.app N101 N102q
 obtain ⟨cq103, kq103, q103a, q103b, q103c⟩ := isOf hZ H102 E1
 obtain ⟨_, _, ⟨T103, L103, k103, n103⟩, -, X103, ⟨Lc103, hQ103, l103, y103, z103⟩, st103⟩ := X102.virtualBack hx (y := mN11) (z := mN11) hown (mvT hZ (tw hw 94 rfl)) (mvT hZ (tw hw 95 rfl)) (notFace_of_selects (args := #[]) (mvT hZ (tw hw 97 rfl))) (mvT hZ (tw hw 97 rfl)) (mvT hZ (tw hw 96 rfl)) (by decide) (backOf (W := 0) (rmIsLatL l Z a0 hw [] a1 bs t1 k1 cs0 h0 n0 O0 S_CS c_CS E1 F1 F2 V1 hn) hZ (tw hw 98 rfl) (tw hw 11 rfl) (by decide) (by decide)) q103a q103c (g := (mkF m 11 #[vR a1, vI 0, vI (Int32.ofNat bs.length)] [(.ref a1)])) rfl (by rw [hml]; rfl) (Steps.refl _) (argsL := []) (rest := []) (lenOf pd_6 rfl) rfl (by show 2 * 0 + _ ≤ _; exact Nat.le_of_eq rfl) (hb hby d18_11) (fun _ _ => ⟨rfl, H102, (by decide : 0 + 0 ≤ _), (by decide : 0 + 0 ≤ _)⟩)
 dsimp only [Pt.U, Pt.locs, Pt.cells, Pt.slots] at X103 l103 y103 z103 st103 hQ103
 subst l103 y103 z103
 obtain ⟨rfl, N103q, H103⟩ := hQ103
 have N103 := Fr.app N102 N103q
 obtain ⟨fs, hr, hrun, hended, hW, hsame⟩ := X103.leave (v := some (.int ((Int32.ofNat bs.length) - (0 : Int32)))) (fun h => by rw [Bd.returns] at h; cases h)
 refine ⟨_, _, pre0 _ ?_, hrun, hended, _, _, rfl, ?_, ⟨_, rfl⟩, hW, hsame.mono (by decide) (by decide)⟩
 ·skip
  show SS p e below s₁ m 0 #[vR a1, vI 0, vI (Int32.ofNat bs.length)] [] _
  refine XS.iloadN X0.here hx rfl (hb hby d18_0) rfl ?_
  refine XS.iloadN X0.here hx rfl (hb hby d18_1) rfl ?_
  refine XS.aloadN X0.here hx rfl (hb hby d18_2) rfl rfl ?_
  show SS p e below s₁ m 3 #[vR a1, vI 0, vI (Int32.ofNat bs.length)] [(.ref a1), (.int (Int32.ofNat bs.length)), (.int 0)] _
  refine st101.trans ?_
  show SS p e below T101 m 6 #[vR a1, vI 0, vI (Int32.ofNat bs.length)] [(.int (Int32.ofNat bs.length)), (.int (Int32.ofNat bs.length)), (.int 0)] _
  refine st102 _ ?_
  refine XS.pop X102.here hx rfl (hb hby d18_9) rfl rfl ?_
  refine XS.aloadN X102.here hx rfl (hb hby d18_10) rfl rfl ?_
  show SS p e below T102 m 11 #[vR a1, vI 0, vI (Int32.ofNat bs.length)] [(.ref a1)] _
  refine st103.trans ?_
  refine XS.ifNo X103.here hx rfl (hb hby d18_14) rfl ((if0 _ _).trans (feq (by decide : ¬ ((1 : Int32) = (0 : Int32)))).1) ?_
  refine XS.iloadN X103.here hx rfl (hb hby d18_17) rfl ?_
  refine XS.iloadN X103.here hx rfl (hb hby d18_18) rfl ?_
  refine XS.isub X103.here hx rfl (hb hby d18_19) rfl ?_
  show SS p e below T103 m 20 #[vR a1, vI 0, vI (Int32.ofNat bs.length)] [(.int ((Int32.ofNat bs.length) - (0 : Int32)))] _
  exact retI X103 hx Bd.returns (hb hby d18_20) hr
 ·show Q_rmCpcL Z a1 bs t1 k1 cs0 h0 n0 _ T103.heap _
  rw [H103]
  exact ⟨congrArg (fun z => some (Value.int z)) (Int32.sub_zero _), N103, rfl⟩
theorem d7_0 : decode cD33 0 = .ok (.aload_n 0, 1) := by decide +kernel
theorem d7_1 : decode cD33 1 = .ok (.getfield 9, 3) := by decide +kernel
theorem d7_4 : decode cD33 4 = .ok (.arraylength, 1) := by decide +kernel
theorem d7_5 : decode cD33 5 = .ok (.ifCond .ne 7, 3) := by decide +kernel
theorem d7_8 : decode cD33 8 = .ok (.iconst 1, 1) := by decide +kernel
theorem d7_9 : decode cD33 9 = .ok (.goto 4, 3) := by decide +kernel
theorem d7_13 : decode cD33 13 = .ok (.ireturn, 1) := by decide +kernel
theorem pn_7 : plainName "java/lang/String" = true := by first | (simp [plainName, overriddenIn]; done) | decide +kernel
theorem ef_rmIsEmptyLE (m : MethodId) (y0 : Addr) : entryFrame m #[(.ref y0)] 1 = (mkF m 0 #[vR y0] []) := by first | (simp [entryFrame, mkF, argsToLocals, Value.category]; done) | rfl
def Q_rmIsEmptyLE (Z : State) (a1 : Addr) (bs : List Int32) (t1 : Addr) (k1 : ClassId) (cs0 : Int32) (h0 : Heap) (n0 : Nat) (v : Option Value) (h : Heap) (L : List Loc) : Prop := v = some (.int 1) ∧ Fr n0 L ∧ h = h0
set_option maxRecDepth 65536 in
set_option maxHeartbeats 40000000 in
theorem rmIsEmptyLE (l : Launch) (Z : State) (a0 : Array Value) (hw : ∀ d ∈ tables_1, d.before a0 Z = true) (ws : List Jvm.Cond) (a1 : Addr) (bs : List Int32) (t1 : Addr) (k1 : ClassId) (cs0 : Int32) (h0 : Heap) (n0 : Nat) (O0 : Old Z n0 h0) (S_CS : SCS Z cs0) (c_CS : ¬ (cs0 = (0 : Int32))) (E1 : Exa Z h0 a1 "java/lang/String") (F1 : Fld Z h0 a1 "java/lang/String" "value" "[B" (.ref t1)) (F2 : Fld Z h0 a1 "java/lang/String" "coder" "B" (.int 0)) (V1 : Arv Z h0 t1 k1 .byte (Int32.ofNat bs.length) (bs.map Value.int) (.int 0)) (hn : bs.length ≤ 257) (hz : bs.length = 0) :
  MetFree l mN33 (head1 (Jvm.Cond.code mN33 jdk_42_method_55_code 1 (some .boolean) :: ws) (Rm 0 0 0 0)) (fun a U => a = #[(.ref a1)] ∧ Z.Warmed39 U.vm ∧ U.heap = h0) (fun _ _ _ _ _ => True) (fun _ U o U' => ∃ v L, o = .returned v ∧ Q_rmIsEmptyLE Z a1 bs t1 k1 cs0 h0 n0 v U'.heap L ∧ FrameEnd U o U' L (Rm 0 0 0 0).cells (Rm 0 0 0 0).slots) := by
 refine MetFree.of_bodySF (plainFor_of_name pn_7) hisR ?_
 intro p e s m args below meth c s₁ Bd hml0 hP hK
 obtain ⟨rfl, hZ, hh⟩ := hP
 have hx := Bd.exec
 have hby := Bd.bytes
 have hml : c.maxLocals = 1 := hml0
 have hown : s.vm.findClass "java/lang/String" = some m.cls := findClass_of_methodNamed Bd.named
 have hnm := (name_of_methodNamed Bd.named Bd.method).1
 have X0 : Stand p l e (Rm 0 0 0 0) s m #[(.ref a1)] below meth c s₁ [] 0 0 := Stand.of_body Bd
 have e0 : s₁.heap = h0 := by rw [← hh, Bd.state]; rfl
 have N0 := Fr.nil n0
 have hn0 : n0 ≤ h0.size := O0.1 ▸ O0.2.1
 have pre0 : ∀ t, SS p e below s₁ m 0 #[vR a1] [] t → Steps p.tables e below (s₁.setTop (entryFrame m #[(.ref a1)] 1)) t := fun t k => castTop (ef_rmIsEmptyLE m a1) k
 have hn31 : bs.length < 2 ^ 31 := by omega
 obtain ⟨T101, X101, e101, st101⟩ := getF X0 hx hZ hown (host := "") (Or.inl (tw hw 29 rfl)) Via.refl e0 F1 (g := (mkF m 1 #[vR a1] [(.ref a1)])) rfl rfl (hb hby d7_1)
 obtain ⟨cl102, Ar102, q102, S102, Nn102, H102, G102⟩ := id V1
 obtain ⟨fs, hr, hrun, hended, hW, hsame⟩ := X101.leave (v := some (.int 1)) (fun h => by rw [Bd.returns] at h; cases h)
 refine ⟨_, _, pre0 _ ?_, hrun, hended, _, _, rfl, ?_, ⟨_, rfl⟩, hW, hsame.mono (by decide) (by decide)⟩
 ·skip
  show SS p e below s₁ m 0 #[vR a1] [] _
  refine XS.aloadN X0.here hx rfl (hb hby d7_0) rfl rfl ?_
  show SS p e below s₁ m 1 #[vR a1] [(.ref a1)] _
  refine st101 _ ?_
  show SS p e below T101 m 4 #[vR a1] [(.ref t1)] _
  refine X101.arraylength hx (by rw [e101]; exact Ar102.1) (State.isArrayOf_alike hZ.alike Ar102.2.1) (g := (mkF m 4 #[vR a1] [(.ref t1)])) rfl rfl (hb hby d7_4) _ ?_
  rw [len_of S102 Nn102]
  refine XS.ifNo X101.here hx rfl (hb hby d7_5) rfl ((if0 _ _).trans (teq ((own_eqn (j := 0) hn31 (by decide)).mpr hz : (Int32.ofNat bs.length) = (0 : Int32))).2) ?_
  refine XS.iconst X101.here hx rfl (hb hby d7_8) ?_
  refine XS.goto X101.here hx rfl (pc0 := 9) (pc' := 13) rfl (hb hby d7_9) (by decide) (by decide) ?_
  show SS p e below T101 m 13 #[vR a1] [(.int 1)] _
  exact retN X101 hx (t := .boolean) Bd.returns (by simp) (hb hby d7_13) hr
 ·show Q_rmIsEmptyLE Z a1 bs t1 k1 cs0 h0 n0 _ T101.heap _
  rw [e101]
  exact ⟨rfl, N0, rfl⟩
theorem d7_12 : decode cD33 12 = .ok (.iconst 0, 1) := by decide +kernel
theorem ef_rmIsEmptyLN (m : MethodId) (y0 : Addr) : entryFrame m #[(.ref y0)] 1 = (mkF m 0 #[vR y0] []) := by first | (simp [entryFrame, mkF, argsToLocals, Value.category]; done) | rfl
def Q_rmIsEmptyLN (Z : State) (a1 : Addr) (bs : List Int32) (t1 : Addr) (k1 : ClassId) (cs0 : Int32) (h0 : Heap) (n0 : Nat) (v : Option Value) (h : Heap) (L : List Loc) : Prop := v = some (.int 0) ∧ Fr n0 L ∧ h = h0
set_option maxRecDepth 65536 in
set_option maxHeartbeats 40000000 in
theorem rmIsEmptyLN (l : Launch) (Z : State) (a0 : Array Value) (hw : ∀ d ∈ tables_1, d.before a0 Z = true) (ws : List Jvm.Cond) (a1 : Addr) (bs : List Int32) (t1 : Addr) (k1 : ClassId) (cs0 : Int32) (h0 : Heap) (n0 : Nat) (O0 : Old Z n0 h0) (S_CS : SCS Z cs0) (c_CS : ¬ (cs0 = (0 : Int32))) (E1 : Exa Z h0 a1 "java/lang/String") (F1 : Fld Z h0 a1 "java/lang/String" "value" "[B" (.ref t1)) (F2 : Fld Z h0 a1 "java/lang/String" "coder" "B" (.int 0)) (V1 : Arv Z h0 t1 k1 .byte (Int32.ofNat bs.length) (bs.map Value.int) (.int 0)) (hn : bs.length ≤ 257) (h0n : 0 < bs.length) :
  MetFree l mN33 (head1 (Jvm.Cond.code mN33 jdk_42_method_55_code 1 (some .boolean) :: ws) (Rm 0 0 0 0)) (fun a U => a = #[(.ref a1)] ∧ Z.Warmed39 U.vm ∧ U.heap = h0) (fun _ _ _ _ _ => True) (fun _ U o U' => ∃ v L, o = .returned v ∧ Q_rmIsEmptyLN Z a1 bs t1 k1 cs0 h0 n0 v U'.heap L ∧ FrameEnd U o U' L (Rm 0 0 0 0).cells (Rm 0 0 0 0).slots) := by
 refine MetFree.of_bodySF (plainFor_of_name pn_7) hisR ?_
 intro p e s m args below meth c s₁ Bd hml0 hP hK
 obtain ⟨rfl, hZ, hh⟩ := hP
 have hx := Bd.exec
 have hby := Bd.bytes
 have hml : c.maxLocals = 1 := hml0
 have hown : s.vm.findClass "java/lang/String" = some m.cls := findClass_of_methodNamed Bd.named
 have hnm := (name_of_methodNamed Bd.named Bd.method).1
 have X0 : Stand p l e (Rm 0 0 0 0) s m #[(.ref a1)] below meth c s₁ [] 0 0 := Stand.of_body Bd
 have e0 : s₁.heap = h0 := by rw [← hh, Bd.state]; rfl
 have N0 := Fr.nil n0
 have hn0 : n0 ≤ h0.size := O0.1 ▸ O0.2.1
 have pre0 : ∀ t, SS p e below s₁ m 0 #[vR a1] [] t → Steps p.tables e below (s₁.setTop (entryFrame m #[(.ref a1)] 1)) t := fun t k => castTop (ef_rmIsEmptyLN m a1) k
 have hn31 : bs.length < 2 ^ 31 := by omega
 obtain ⟨T101, X101, e101, st101⟩ := getF X0 hx hZ hown (host := "") (Or.inl (tw hw 29 rfl)) Via.refl e0 F1 (g := (mkF m 1 #[vR a1] [(.ref a1)])) rfl rfl (hb hby d7_1)
 obtain ⟨cl102, Ar102, q102, S102, Nn102, H102, G102⟩ := id V1
 obtain ⟨fs, hr, hrun, hended, hW, hsame⟩ := X101.leave (v := some (.int 0)) (fun h => by rw [Bd.returns] at h; cases h)
 refine ⟨_, _, pre0 _ ?_, hrun, hended, _, _, rfl, ?_, ⟨_, rfl⟩, hW, hsame.mono (by decide) (by decide)⟩
 ·skip
  show SS p e below s₁ m 0 #[vR a1] [] _
  refine XS.aloadN X0.here hx rfl (hb hby d7_0) rfl rfl ?_
  show SS p e below s₁ m 1 #[vR a1] [(.ref a1)] _
  refine st101 _ ?_
  show SS p e below T101 m 4 #[vR a1] [(.ref t1)] _
  refine X101.arraylength hx (by rw [e101]; exact Ar102.1) (State.isArrayOf_alike hZ.alike Ar102.2.1) (g := (mkF m 4 #[vR a1] [(.ref t1)])) rfl rfl (hb hby d7_4) _ ?_
  rw [len_of S102 Nn102]
  refine XS.ifYes X101.here hx rfl (pc0 := 5) (pc' := 12) rfl (hb hby d7_5) rfl ((if0 _ _).trans (feq (fun q => by have := (own_eqn (j := 0) hn31 (by decide)).mp q; omega : ¬ ((Int32.ofNat bs.length) = (0 : Int32)))).2) (by decide) (by decide) ?_
  refine XS.iconst X101.here hx rfl (hb hby d7_12) ?_
  show SS p e below T101 m 13 #[vR a1] [(.int 0)] _
  exact retN X101 hx (t := .boolean) Bd.returns (by simp) (hb hby d7_13) hr
 ·show Q_rmIsEmptyLN Z a1 bs t1 k1 cs0 h0 n0 _ T101.heap _
  rw [e101]
  exact ⟨rfl, N0, rfl⟩
theorem d26_23 : decode cD30 23 = .ok (.aload_n 0, 1) := by decide +kernel
theorem d26_24 : decode cD30 24 = .ok (.getfield 9, 3) := by decide +kernel
theorem d26_27 : decode cD30 27 = .ok (.iload_n 1, 1) := by decide +kernel
theorem d26_28 : decode cD30 28 = .ok (.iload_n 2, 1) := by decide +kernel
theorem d26_29 : decode cD30 29 = .ok (.aload_n 0, 1) := by decide +kernel
theorem d26_30 : decode cD30 30 = .ok (.invokevirtual 505, 3) := by decide +kernel
theorem d26_33 : decode cD30 33 = .ok (.invokestatic 640, 3) := by decide +kernel
theorem ef_rmIx2U (m : MethodId) (y0 : Addr) : entryFrame m #[(.ref y0), (.int 0), (.int 0)] 3 = (mkF m 0 #[vR y0, vI 0, vI 0] []) := by first | (simp [entryFrame, mkF, argsToLocals, Value.category]; done) | rfl
def Q_rmIx2U (Z : State) (a1 : Addr) (cs : List Int32) (t1 : Addr) (k1 : ClassId) (cs0 : Int32) (m1 : Nat) (fm : Value) (h0 : Heap) (n0 : Nat) (v : Option Value) (h : Heap) (L : List Loc) : Prop := v = some (.int (if m1 < cs.length then Int32.ofNat m1 else (-1 : Int32))) ∧ Fr n0 L ∧ h = h0
set_option maxRecDepth 65536 in
set_option maxHeartbeats 40000000 in
theorem rmIx2U (l : Launch) (Z : State) (a0 : Array Value) (hw : ∀ d ∈ tables_1, d.before a0 Z = true) (ws : List Jvm.Cond) (a1 : Addr) (cs : List Int32) (t1 : Addr) (k1 : ClassId) (cs0 : Int32) (m1 : Nat) (fm : Value) (h0 : Heap) (n0 : Nat) (O0 : Old Z n0 h0) (S_CS : SCS Z cs0) (c_CS : ¬ (cs0 = (0 : Int32))) (E1 : Exa Z h0 a1 "java/lang/String") (F1 : Fld Z h0 a1 "java/lang/String" "value" "[B" (.ref t1)) (F2 : Fld Z h0 a1 "java/lang/String" "coder" "B" (.int 1)) (V1 : Arv Z h0 t1 k1 .byte (Int32.ofNat (2 * cs.length)) (u16 cs) (.int 0)) (hn : cs.length ≤ 257) (h0n : 0 < cs.length) (hm : m1 ≤ cs.length) (hpre : ∀ j, j < m1 → ¬ ((cs.getD j 0) = (0 : Int32))) (hend : m1 < cs.length → (cs.getD m1 0) = (0 : Int32)) (S_AD : SAD Z) (S_HI : SHI Z) (S_LO : SLO Z) (hcs : ∀ c ∈ cs, ¬ c < 0 ∧ ¬ (65535 : Int32) < c) (S_FM : SFM Z fm) (r_FM : fm.isRef = true) :
  MetFree l mN30 (head1 (Jvm.Cond.code mN30 jdk_42_method_80_code 3 (some .int) :: ws) (Rm 5 0 0 110)) (fun a U => a = #[(.ref a1), (.int 0), (.int 0)] ∧ Z.Warmed39 U.vm ∧ U.heap = h0) (fun _ _ _ _ _ => True) (fun _ U o U' => ∃ v L, o = .returned v ∧ Q_rmIx2U Z a1 cs t1 k1 cs0 m1 fm h0 n0 v U'.heap L ∧ FrameEnd U o U' L (Rm 5 0 0 110).cells (Rm 5 0 0 110).slots) := by
 refine MetFree.of_bodySF (plainFor_of_name pn_26) hisR ?_
 intro p e s m args below meth c s₁ Bd hml0 hP hK
 obtain ⟨rfl, hZ, hh⟩ := hP
 have hx := Bd.exec
 have hby := Bd.bytes
 have hml : c.maxLocals = 3 := hml0
 have hown : s.vm.findClass "java/lang/String" = some m.cls := findClass_of_methodNamed Bd.named
 have hnm := (name_of_methodNamed Bd.named Bd.method).1
 have X0 : Stand p l e (Rm 5 0 0 110) s m #[(.ref a1), (.int 0), (.int 0)] below meth c s₁ [] 0 0 := Stand.of_body Bd
 have e0 : s₁.heap = h0 := by rw [← hh, Bd.state]; rfl
 have N0 := Fr.nil n0
 have hn0 : n0 ≤ h0.size := O0.1 ▸ O0.2.1
 have pre0 : ∀ t, SS p e below s₁ m 0 #[vR a1, vI 0, vI 0] [] t → Steps p.tables e below (s₁.setTop (entryFrame m #[(.ref a1), (.int 0), (.int 0)] 3)) t := fun t k => castTop (ef_rmIx2U m a1) k
 have hn31 : cs.length < 2 ^ 31 := by omega
 obtain ⟨cq101, kq101, q101a, q101b, q101c⟩ := isOf hZ e0 E1
 obtain ⟨_, _, ⟨T101, L101, k101, n101⟩, -, X101, ⟨Lc101, hQ101, l101, y101, z101⟩, st101⟩ := X0.virtualBack hx (y := mN11) (z := mN11) hown (mvT hZ (tw hw 94 rfl)) (mvT hZ (tw hw 95 rfl)) (notFace_of_selects (args := #[]) (mvT hZ (tw hw 97 rfl))) (mvT hZ (tw hw 97 rfl)) (mvT hZ (tw hw 96 rfl)) (by decide) (backOf (W := 0) (rmIsLatU l Z a0 hw [] a1 cs t1 k1 cs0 h0 n0 O0 S_CS c_CS E1 F1 F2 V1 hn) hZ (tw hw 98 rfl) (tw hw 11 rfl) (by decide) (by decide)) q101a q101c (g := (mkF m 1 #[vR a1, vI 0, vI 0] [(.ref a1)])) rfl (by rw [hml]; rfl) (Steps.refl _) (argsL := []) (rest := []) (lenOf pd_6 rfl) rfl (by show 2 * 0 + _ ≤ _; exact Nat.le_of_eq rfl) (hb hby d26_1) (fun _ _ => ⟨rfl, e0, (by decide : 0 + 0 ≤ _), (by decide : 0 + 0 ≤ _)⟩)
 dsimp only [Pt.U, Pt.locs, Pt.cells, Pt.slots] at X101 l101 y101 z101 st101 hQ101
 subst l101 y101 z101
 obtain ⟨rfl, N101q, H101⟩ := hQ101
 have N101 := Fr.app N0 N101q
 obtain ⟨T102, X102, e102, st102⟩ := getF X101 hx hZ hown (host := "") (Or.inl (tw hw 29 rfl)) Via.refl H101 F1 (g := (mkF m 24 #[vR a1, vI 0, vI 0] [(.ref a1)])) rfl rfl (hb hby d26_24)
 obtain ⟨cq103, kq103, q103a, q103b, q103c⟩ := isOf hZ e102 E1
 obtain ⟨_, _, ⟨T103, L103, k103, n103⟩, -, X103, ⟨Lc103, hQ103, l103, y103, z103⟩, st103⟩ := X102.virtualBack hx (y := mN12) (z := mN12) hown (mvT hZ (tw hw 85 rfl)) (mvT hZ (tw hw 71 rfl)) (notFace_of_selects (args := #[]) (mvT hZ (tw hw 73 rfl))) (mvT hZ (tw hw 73 rfl)) (mvT hZ (tw hw 72 rfl)) (by decide) (backOf (W := 3) (rmLenU l Z a0 hw [] a1 cs t1 k1 cs0 h0 n0 O0 S_CS c_CS E1 F1 F2 V1 hn) hZ (tw hw 74 rfl) (tw hw 11 rfl) (by decide) (by decide)) q103a q103c (g := (mkF m 30 #[vR a1, vI 0, vI 0] [(.ref a1), (.int 0), (.int 0), (.ref t1)])) rfl (by rw [hml]; rfl) (Steps.refl _) (argsL := []) (rest := [(.int 0), (.int 0), (.ref t1)]) (lenOf pd_14 rfl) rfl (by show 2 * 0 + _ ≤ _; exact Nat.le_of_eq rfl) (hb hby d26_30) (fun _ _ => ⟨rfl, e102, (by decide : 0 + 0 ≤ _), (by decide : 0 + 0 ≤ _)⟩)
 dsimp only [Pt.U, Pt.locs, Pt.cells, Pt.slots] at X103 l103 y103 z103 st103 hQ103
 subst l103 y103 z103
 obtain ⟨rfl, N103q, H103⟩ := hQ103
 have N103 := Fr.app N101 N103q
 obtain ⟨_, _, ⟨T104, L104, k104, n104⟩, -, X104, ⟨Lc104, hQ104, l104, y104, z104⟩, st104⟩ := Jvm.LawKit.callS X103 hx (y := mN29) hown (mvT hZ (tw hw 121 rfl)) (mvT hZ (tw hw 122 rfl)) (mvT hZ (tw hw 43 rfl)) (mvT hZ (tw hw 123 rfl)) (by decide) (backOf (W := 0) (rmIx4U l Z a0 hw [] t1 cs k1 m1 fm h0 n0 O0 S_AD S_HI S_LO V1 hn hcs hm hpre hend h0n S_FM r_FM) hZ (tw hw 123 rfl) (tw hw 43 rfl) (by decide) (by decide)) (g := (mkF m 33 #[vR a1, vI 0, vI 0] [(.int (Int32.ofNat cs.length)), (.int 0), (.int 0), (.ref t1)])) rfl (by rw [hml]; rfl) (argsL := [(.ref t1), (.int 0), (.int 0), (.int (Int32.ofNat cs.length))]) (rest := []) (lenOf pd_22 rfl) rfl (by show 2 * 0 + _ ≤ _; exact Nat.le_of_eq rfl) (hb hby d26_33) (fun _ _ => ⟨rfl, H103, (by decide : 0 + 0 ≤ _), (by decide : 0 + 0 ≤ _)⟩)
 dsimp only [Pt.U, Pt.locs, Pt.cells, Pt.slots] at X104 l104 y104 z104 st104 hQ104
 subst l104 y104 z104
 obtain ⟨rfl, N104q, H104⟩ := hQ104
 have N104 := Fr.app N103 N104q
 obtain ⟨fs, hr, hrun, hended, hW, hsame⟩ := X104.leave (v := some (.int (if m1 < cs.length then Int32.ofNat m1 else (-1 : Int32)))) (fun h => by rw [Bd.returns] at h; cases h)
 refine ⟨_, _, pre0 _ ?_, hrun, hended, _, _, rfl, ?_, ⟨_, rfl⟩, hW, hsame.mono (by decide) (by decide)⟩
 ·skip
  show SS p e below s₁ m 0 #[vR a1, vI 0, vI 0] [] _
  refine XS.aloadN X0.here hx rfl (hb hby d26_0) rfl rfl ?_
  show SS p e below s₁ m 1 #[vR a1, vI 0, vI 0] [(.ref a1)] _
  refine st101.trans ?_
  refine XS.ifYes X101.here hx rfl (pc0 := 4) (pc' := 23) rfl (hb hby d26_4) rfl ((if0 _ _).trans (teq (by decide : (0 : Int32) = (0 : Int32))).1) (by decide) (by decide) ?_
  refine XS.aloadN X101.here hx rfl (hb hby d26_23) rfl rfl ?_
  show SS p e below T101 m 24 #[vR a1, vI 0, vI 0] [(.ref a1)] _
  refine st102 _ ?_
  refine XS.iloadN X102.here hx rfl (hb hby d26_27) rfl ?_
  refine XS.iloadN X102.here hx rfl (hb hby d26_28) rfl ?_
  refine XS.aloadN X102.here hx rfl (hb hby d26_29) rfl rfl ?_
  show SS p e below T102 m 30 #[vR a1, vI 0, vI 0] [(.ref a1), (.int 0), (.int 0), (.ref t1)] _
  refine st103.trans ?_
  show SS p e below T103 m 33 #[vR a1, vI 0, vI 0] [(.int (Int32.ofNat cs.length)), (.int 0), (.int 0), (.ref t1)] _
  refine st104 _ ?_
  show SS p e below T104 m 36 #[vR a1, vI 0, vI 0] [(.int (if m1 < cs.length then Int32.ofNat m1 else (-1 : Int32)))] _
  exact retI X104 hx Bd.returns (hb hby d26_36) hr
 ·show Q_rmIx2U Z a1 cs t1 k1 cs0 m1 fm h0 n0 _ T104.heap _
  rw [H104]
  exact ⟨rfl, N104, rfl⟩
theorem ef_rmIx1U (m : MethodId) (y0 : Addr) : entryFrame m #[(.ref y0), (.int 0)] 2 = (mkF m 0 #[vR y0, vI 0] []) := by first | (simp [entryFrame, mkF, argsToLocals, Value.category]; done) | rfl
def Q_rmIx1U (Z : State) (a1 : Addr) (cs : List Int32) (t1 : Addr) (k1 : ClassId) (cs0 : Int32) (m1 : Nat) (fm : Value) (h0 : Heap) (n0 : Nat) (v : Option Value) (h : Heap) (L : List Loc) : Prop := v = some (.int (if m1 < cs.length then Int32.ofNat m1 else (-1 : Int32))) ∧ Fr n0 L ∧ h = h0
set_option maxRecDepth 65536 in
set_option maxHeartbeats 40000000 in
theorem rmIx1U (l : Launch) (Z : State) (a0 : Array Value) (hw : ∀ d ∈ tables_1, d.before a0 Z = true) (ws : List Jvm.Cond) (a1 : Addr) (cs : List Int32) (t1 : Addr) (k1 : ClassId) (cs0 : Int32) (m1 : Nat) (fm : Value) (h0 : Heap) (n0 : Nat) (O0 : Old Z n0 h0) (S_CS : SCS Z cs0) (c_CS : ¬ (cs0 = (0 : Int32))) (E1 : Exa Z h0 a1 "java/lang/String") (F1 : Fld Z h0 a1 "java/lang/String" "value" "[B" (.ref t1)) (F2 : Fld Z h0 a1 "java/lang/String" "coder" "B" (.int 1)) (V1 : Arv Z h0 t1 k1 .byte (Int32.ofNat (2 * cs.length)) (u16 cs) (.int 0)) (hn : cs.length ≤ 257) (h0n : 0 < cs.length) (hm : m1 ≤ cs.length) (hpre : ∀ j, j < m1 → ¬ ((cs.getD j 0) = (0 : Int32))) (hend : m1 < cs.length → (cs.getD m1 0) = (0 : Int32)) (S_AD : SAD Z) (S_HI : SHI Z) (S_LO : SLO Z) (hcs : ∀ c ∈ cs, ¬ c < 0 ∧ ¬ (65535 : Int32) < c) (S_FM : SFM Z fm) (r_FM : fm.isRef = true) :
  MetFree l mN31 (head1 (Jvm.Cond.code mN31 jdk_42_method_79_code 2 (some .int) :: ws) (Rm 6 0 0 130)) (fun a U => a = #[(.ref a1), (.int 0)] ∧ Z.Warmed39 U.vm ∧ U.heap = h0) (fun _ _ _ _ _ => True) (fun _ U o U' => ∃ v L, o = .returned v ∧ Q_rmIx1U Z a1 cs t1 k1 cs0 m1 fm h0 n0 v U'.heap L ∧ FrameEnd U o U' L (Rm 6 0 0 130).cells (Rm 6 0 0 130).slots) := by
 refine MetFree.of_bodySF (plainFor_of_name pn_25) hisR ?_
 intro p e s m args below meth c s₁ Bd hml0 hP hK
 obtain ⟨rfl, hZ, hh⟩ := hP
 have hx := Bd.exec
 have hby := Bd.bytes
 have hml : c.maxLocals = 2 := hml0
 have hown : s.vm.findClass "java/lang/String" = some m.cls := findClass_of_methodNamed Bd.named
 have hnm := (name_of_methodNamed Bd.named Bd.method).1
 have X0 : Stand p l e (Rm 6 0 0 130) s m #[(.ref a1), (.int 0)] below meth c s₁ [] 0 0 := Stand.of_body Bd
 have e0 : s₁.heap = h0 := by rw [← hh, Bd.state]; rfl
 have N0 := Fr.nil n0
 have hn0 : n0 ≤ h0.size := O0.1 ▸ O0.2.1
 have pre0 : ∀ t, SS p e below s₁ m 0 #[vR a1, vI 0] [] t → Steps p.tables e below (s₁.setTop (entryFrame m #[(.ref a1), (.int 0)] 2)) t := fun t k => castTop (ef_rmIx1U m a1) k
 have hn31 : cs.length < 2 ^ 31 := by omega
 obtain ⟨cq101, kq101, q101a, q101b, q101c⟩ := isOf hZ e0 E1
 obtain ⟨_, _, ⟨T101, L101, k101, n101⟩, -, X101, ⟨Lc101, hQ101, l101, y101, z101⟩, st101⟩ := X0.virtualBack hx (y := mN30) (z := mN30) hown (mvT hZ (tw hw 116 rfl)) (mvT hZ (tw hw 117 rfl)) (notFace_of_selects (args := #[]) (mvT hZ (tw hw 119 rfl))) (mvT hZ (tw hw 119 rfl)) (mvT hZ (tw hw 118 rfl)) (by decide) (backOf (W := 0) (rmIx2U l Z a0 hw [] a1 cs t1 k1 cs0 m1 fm h0 n0 O0 S_CS c_CS E1 F1 F2 V1 hn h0n hm hpre hend S_AD S_HI S_LO hcs S_FM r_FM) hZ (tw hw 120 rfl) (tw hw 11 rfl) (by decide) (by decide)) q101a q101c (g := (mkF m 3 #[vR a1, vI 0] [(.int 0), (.int 0), (.ref a1)])) rfl (by rw [hml]; rfl) (Steps.refl _) (argsL := [(.int 0), (.int 0)]) (rest := []) (lenOf pd_16 rfl) rfl (by show 2 * 0 + _ ≤ _; exact Nat.le_of_eq rfl) (hb hby d25_3) (fun _ _ => ⟨rfl, e0, (by decide : 0 + 0 ≤ _), (by decide : 0 + 0 ≤ _)⟩)
 dsimp only [Pt.U, Pt.locs, Pt.cells, Pt.slots] at X101 l101 y101 z101 st101 hQ101
 subst l101 y101 z101
 obtain ⟨rfl, N101q, H101⟩ := hQ101
 have N101 := Fr.app N0 N101q
 obtain ⟨fs, hr, hrun, hended, hW, hsame⟩ := X101.leave (v := some (.int (if m1 < cs.length then Int32.ofNat m1 else (-1 : Int32)))) (fun h => by rw [Bd.returns] at h; cases h)
 refine ⟨_, _, pre0 _ ?_, hrun, hended, _, _, rfl, ?_, ⟨_, rfl⟩, hW, hsame.mono (by decide) (by decide)⟩
 ·skip
  show SS p e below s₁ m 0 #[vR a1, vI 0] [] _
  refine XS.aloadN X0.here hx rfl (hb hby d25_0) rfl rfl ?_
  refine XS.iloadN X0.here hx rfl (hb hby d25_1) rfl ?_
  refine XS.iconst X0.here hx rfl (hb hby d25_2) ?_
  show SS p e below s₁ m 3 #[vR a1, vI 0] [(.int 0), (.int 0), (.ref a1)] _
  refine st101.trans ?_
  show SS p e below T101 m 6 #[vR a1, vI 0] [(.int (if m1 < cs.length then Int32.ofNat m1 else (-1 : Int32)))] _
  exact retI X101 hx Bd.returns (hb hby d25_6) hr
 ·show Q_rmIx1U Z a1 cs t1 k1 cs0 m1 fm h0 n0 _ T101.heap _
  rw [H101]
  exact ⟨rfl, N101, rfl⟩
theorem d18_21 : decode cD32 21 = .ok (.aload_n 0, 1) := by decide +kernel
theorem d18_22 : decode cD32 22 = .ok (.getfield 9, 3) := by decide +kernel
theorem d18_25 : decode cD32 25 = .ok (.iload_n 1, 1) := by decide +kernel
theorem d18_26 : decode cD32 26 = .ok (.iload_n 2, 1) := by decide +kernel
theorem d18_27 : decode cD32 27 = .ok (.invokestatic 514, 3) := by decide +kernel
theorem d18_30 : decode cD32 30 = .ok (.ireturn, 1) := by decide +kernel
theorem pd_19 : parseMethodDescriptor "([BII)I" = some ⟨[(.array .byte), .int, .int], some .int⟩ := by decide +kernel
theorem ef_rmCpcU (m : MethodId) (y0 : Addr) (y1 : Int32) : entryFrame m #[(.ref y0), (.int 0), (.int y1)] 3 = (mkF m 0 #[vR y0, vI 0, vI y1] []) := by first | (simp [entryFrame, mkF, argsToLocals, Value.category]; done) | rfl
def Q_rmCpcU (Z : State) (a1 : Addr) (cs : List Int32) (t1 : Addr) (k1 : ClassId) (cs0 : Int32) (h0 : Heap) (n0 : Nat) (v : Option Value) (h : Heap) (L : List Loc) : Prop := v = some (.int (Int32.ofNat (cs.length - prs cs))) ∧ Fr n0 L ∧ h = h0
set_option maxRecDepth 65536 in
set_option maxHeartbeats 40000000 in
theorem rmCpcU (l : Launch) (Z : State) (a0 : Array Value) (hw : ∀ d ∈ tables_1, d.before a0 Z = true) (ws : List Jvm.Cond) (a1 : Addr) (cs : List Int32) (t1 : Addr) (k1 : ClassId) (cs0 : Int32) (h0 : Heap) (n0 : Nat) (O0 : Old Z n0 h0) (S_CS : SCS Z cs0) (c_CS : ¬ (cs0 = (0 : Int32))) (E1 : Exa Z h0 a1 "java/lang/String") (F1 : Fld Z h0 a1 "java/lang/String" "value" "[B" (.ref t1)) (F2 : Fld Z h0 a1 "java/lang/String" "coder" "B" (.int 1)) (V1 : Arv Z h0 t1 k1 .byte (Int32.ofNat (2 * cs.length)) (u16 cs) (.int 0)) (hn : cs.length ≤ 257) (h0n : 0 < cs.length) (S_AD : SAD Z) (S_HI : SHI Z) (S_LO : SLO Z) (hcs : ∀ c ∈ cs, ¬ c < 0 ∧ ¬ (65535 : Int32) < c) :
  MetFree l mN32 (head1 (Jvm.Cond.code mN32 jdk_42_method_59_code 3 (some .int) :: ws) (Rm 3 0 0 70)) (fun a U => a = #[(.ref a1), (.int 0), (.int (Int32.ofNat cs.length))] ∧ Z.Warmed39 U.vm ∧ U.heap = h0) (fun _ _ _ _ _ => True) (fun _ U o U' => ∃ v L, o = .returned v ∧ Q_rmCpcU Z a1 cs t1 k1 cs0 h0 n0 v U'.heap L ∧ FrameEnd U o U' L (Rm 3 0 0 70).cells (Rm 3 0 0 70).slots) := by
 refine MetFree.of_bodySF (plainFor_of_name pn_18) hisR ?_
 intro p e s m args below meth c s₁ Bd hml0 hP hK
 obtain ⟨rfl, hZ, hh⟩ := hP
 have hx := Bd.exec
 have hby := Bd.bytes
 have hml : c.maxLocals = 3 := hml0
 have hown : s.vm.findClass "java/lang/String" = some m.cls := findClass_of_methodNamed Bd.named
 have hnm := (name_of_methodNamed Bd.named Bd.method).1
 have X0 : Stand p l e (Rm 3 0 0 70) s m #[(.ref a1), (.int 0), (.int (Int32.ofNat cs.length))] below meth c s₁ [] 0 0 := Stand.of_body Bd
 have e0 : s₁.heap = h0 := by rw [← hh, Bd.state]; rfl
 have N0 := Fr.nil n0
 have hn0 : n0 ≤ h0.size := O0.1 ▸ O0.2.1
 have pre0 : ∀ t, SS p e below s₁ m 0 #[vR a1, vI 0, vI (Int32.ofNat cs.length)] [] t → Steps p.tables e below (s₁.setTop (entryFrame m #[(.ref a1), (.int 0), (.int (Int32.ofNat cs.length))] 3)) t := fun t k => castTop (ef_rmCpcU m a1 ((Int32.ofNat cs.length))) k
 have hn31 : cs.length < 2 ^ 31 := by omega
 obtain ⟨cq101, kq101, q101a, q101b, q101c⟩ := isOf hZ e0 E1
 obtain ⟨_, _, ⟨T101, L101, k101, n101⟩, -, X101, ⟨Lc101, hQ101, l101, y101, z101⟩, st101⟩ := X0.virtualBack hx (y := mN12) (z := mN12) hown (mvT hZ (tw hw 85 rfl)) (mvT hZ (tw hw 71 rfl)) (notFace_of_selects (args := #[]) (mvT hZ (tw hw 73 rfl))) (mvT hZ (tw hw 73 rfl)) (mvT hZ (tw hw 72 rfl)) (by decide) (backOf (W := 2) (rmLenU l Z a0 hw [] a1 cs t1 k1 cs0 h0 n0 O0 S_CS c_CS E1 F1 F2 V1 hn) hZ (tw hw 74 rfl) (tw hw 11 rfl) (by decide) (by decide)) q101a q101c (g := (mkF m 3 #[vR a1, vI 0, vI (Int32.ofNat cs.length)] [(.ref a1), (.int (Int32.ofNat cs.length)), (.int 0)])) rfl (by rw [hml]; rfl) (Steps.refl _) (argsL := []) (rest := [(.int (Int32.ofNat cs.length)), (.int 0)]) (lenOf pd_14 rfl) rfl (by show 2 * 0 + _ ≤ _; exact Nat.le_of_eq rfl) (hb hby d18_3) (fun _ _ => ⟨rfl, e0, (by decide : 0 + 0 ≤ _), (by decide : 0 + 0 ≤ _)⟩)
 dsimp only [Pt.U, Pt.locs, Pt.cells, Pt.slots] at X101 l101 y101 z101 st101 hQ101
 subst l101 y101 z101
 obtain ⟨rfl, N101q, H101⟩ := hQ101
 have N101 := Fr.app N0 N101q
 obtain ⟨_, _, ⟨T102, L102, k102, n102⟩, -, X102, ⟨Lc102, hQ102, l102, y102, z102⟩, st102⟩ := Jvm.LawKit.callS X101 hx (y := mN18) hown (mvT hZ (tw hw 86 rfl)) (mvT hZ (tw hw 87 rfl)) (mvT hZ (tw hw 88 rfl)) (mvT hZ (tw hw 89 rfl)) (by decide) (backOf (W := 0) (rmOcft l Z a0 hw [] (0 : Int32) (Int32.ofNat cs.length) (Int32.ofNat cs.length)  h0 n0 O0 (by decide) (own_nn hn31) (fun q => Nat.lt_irrefl _ ((own_lt hn31 hn31).mp q))) hZ (tw hw 89 rfl) (tw hw 88 rfl) (by decide) (by decide)) (g := (mkF m 6 #[vR a1, vI 0, vI (Int32.ofNat cs.length)] [(.int (Int32.ofNat cs.length)), (.int (Int32.ofNat cs.length)), (.int 0)])) rfl (by rw [hml]; rfl) (argsL := [(.int 0), (.int (Int32.ofNat cs.length)), (.int (Int32.ofNat cs.length))]) (rest := []) (lenOf pd_17 rfl) rfl (by show 2 * 0 + _ ≤ _; exact Nat.le_of_eq rfl) (hb hby d18_6) (fun _ _ => ⟨rfl, H101, (by decide : 0 + 0 ≤ _), (by decide : 0 + 0 ≤ _)⟩)
 dsimp only [Pt.U, Pt.locs, Pt.cells, Pt.slots] at X102 l102 y102 z102 st102 hQ102
 subst l102 y102 z102
 obtain ⟨rfl, N102q, H102⟩ := hQ102
 have N102 := Fr.app N101 N102q
 obtain ⟨cq103, kq103, q103a, q103b, q103c⟩ := isOf hZ H102 E1
 obtain ⟨_, _, ⟨T103, L103, k103, n103⟩, -, X103, ⟨Lc103, hQ103, l103, y103, z103⟩, st103⟩ := X102.virtualBack hx (y := mN11) (z := mN11) hown (mvT hZ (tw hw 94 rfl)) (mvT hZ (tw hw 95 rfl)) (notFace_of_selects (args := #[]) (mvT hZ (tw hw 97 rfl))) (mvT hZ (tw hw 97 rfl)) (mvT hZ (tw hw 96 rfl)) (by decide) (backOf (W := 0) (rmIsLatU l Z a0 hw [] a1 cs t1 k1 cs0 h0 n0 O0 S_CS c_CS E1 F1 F2 V1 hn) hZ (tw hw 98 rfl) (tw hw 11 rfl) (by decide) (by decide)) q103a q103c (g := (mkF m 11 #[vR a1, vI 0, vI (Int32.ofNat cs.length)] [(.ref a1)])) rfl (by rw [hml]; rfl) (Steps.refl _) (argsL := []) (rest := []) (lenOf pd_6 rfl) rfl (by show 2 * 0 + _ ≤ _; exact Nat.le_of_eq rfl) (hb hby d18_11) (fun _ _ => ⟨rfl, H102, (by decide : 0 + 0 ≤ _), (by decide : 0 + 0 ≤ _)⟩)
 dsimp only [Pt.U, Pt.locs, Pt.cells, Pt.slots] at X103 l103 y103 z103 st103 hQ103
 subst l103 y103 z103
 obtain ⟨rfl, N103q, H103⟩ := hQ103
 have N103 := Fr.app N102 N103q
 obtain ⟨T104, X104, e104, st104⟩ := getF X103 hx hZ hown (host := "") (Or.inl (tw hw 29 rfl)) Via.refl H103 F1 (g := (mkF m 22 #[vR a1, vI 0, vI (Int32.ofNat cs.length)] [(.ref a1)])) rfl rfl (hb hby d18_22)
 obtain ⟨_, _, ⟨T105, L105, k105, n105⟩, -, X105, ⟨Lc105, hQ105, l105, y105, z105⟩, st105⟩ := Jvm.LawKit.callS X104 hx (y := mN25) hown (mvT hZ (tw hw 99 rfl)) (mvT hZ (tw hw 100 rfl)) (mvT hZ (tw hw 43 rfl)) (mvT hZ (tw hw 101 rfl)) (by decide) (backOf (W := 0) (rmCp3 l Z a0 hw [] t1 cs k1 h0 n0 O0 S_AD S_HI S_LO V1 hn hcs h0n) hZ (tw hw 101 rfl) (tw hw 43 rfl) (by decide) (by decide)) (g := (mkF m 27 #[vR a1, vI 0, vI (Int32.ofNat cs.length)] [(.int (Int32.ofNat cs.length)), (.int 0), (.ref t1)])) rfl (by rw [hml]; rfl) (argsL := [(.ref t1), (.int 0), (.int (Int32.ofNat cs.length))]) (rest := []) (lenOf pd_19 rfl) rfl (by show 2 * 0 + _ ≤ _; exact Nat.le_of_eq rfl) (hb hby d18_27) (fun _ _ => ⟨rfl, e104, (by decide : 0 + 0 ≤ _), (by decide : 0 + 0 ≤ _)⟩)
 dsimp only [Pt.U, Pt.locs, Pt.cells, Pt.slots] at X105 l105 y105 z105 st105 hQ105
 subst l105 y105 z105
 obtain ⟨rfl, N105q, H105⟩ := hQ105
 have N105 := Fr.app N103 N105q
 obtain ⟨fs, hr, hrun, hended, hW, hsame⟩ := X105.leave (v := some (.int (Int32.ofNat (cs.length - prs cs)))) (fun h => by rw [Bd.returns] at h; cases h)
 refine ⟨_, _, pre0 _ ?_, hrun, hended, _, _, rfl, ?_, ⟨_, rfl⟩, hW, hsame.mono (by decide) (by decide)⟩
 ·skip
  show SS p e below s₁ m 0 #[vR a1, vI 0, vI (Int32.ofNat cs.length)] [] _
  refine XS.iloadN X0.here hx rfl (hb hby d18_0) rfl ?_
  refine XS.iloadN X0.here hx rfl (hb hby d18_1) rfl ?_
  refine XS.aloadN X0.here hx rfl (hb hby d18_2) rfl rfl ?_
  show SS p e below s₁ m 3 #[vR a1, vI 0, vI (Int32.ofNat cs.length)] [(.ref a1), (.int (Int32.ofNat cs.length)), (.int 0)] _
  refine st101.trans ?_
  show SS p e below T101 m 6 #[vR a1, vI 0, vI (Int32.ofNat cs.length)] [(.int (Int32.ofNat cs.length)), (.int (Int32.ofNat cs.length)), (.int 0)] _
  refine st102 _ ?_
  refine XS.pop X102.here hx rfl (hb hby d18_9) rfl rfl ?_
  refine XS.aloadN X102.here hx rfl (hb hby d18_10) rfl rfl ?_
  show SS p e below T102 m 11 #[vR a1, vI 0, vI (Int32.ofNat cs.length)] [(.ref a1)] _
  refine st103.trans ?_
  refine XS.ifYes X103.here hx rfl (pc0 := 14) (pc' := 21) rfl (hb hby d18_14) rfl ((if0 _ _).trans (teq (by decide : (0 : Int32) = (0 : Int32))).1) (by decide) (by decide) ?_
  refine XS.aloadN X103.here hx rfl (hb hby d18_21) rfl rfl ?_
  show SS p e below T103 m 22 #[vR a1, vI 0, vI (Int32.ofNat cs.length)] [(.ref a1)] _
  refine st104 _ ?_
  refine XS.iloadN X104.here hx rfl (hb hby d18_25) rfl ?_
  refine XS.iloadN X104.here hx rfl (hb hby d18_26) rfl ?_
  show SS p e below T104 m 27 #[vR a1, vI 0, vI (Int32.ofNat cs.length)] [(.int (Int32.ofNat cs.length)), (.int 0), (.ref t1)] _
  refine st105 _ ?_
  show SS p e below T105 m 30 #[vR a1, vI 0, vI (Int32.ofNat cs.length)] [(.int (Int32.ofNat (cs.length - prs cs)))] _
  exact retI X105 hx Bd.returns (hb hby d18_30) hr
 ·show Q_rmCpcU Z a1 cs t1 k1 cs0 h0 n0 _ T105.heap _
  rw [H105]
  exact ⟨rfl, N105, rfl⟩
theorem ef_rmIsEmptyU (m : MethodId) (y0 : Addr) : entryFrame m #[(.ref y0)] 1 = (mkF m 0 #[vR y0] []) := by first | (simp [entryFrame, mkF, argsToLocals, Value.category]; done) | rfl
def Q_rmIsEmptyU (Z : State) (a1 : Addr) (cs : List Int32) (t1 : Addr) (k1 : ClassId) (cs0 : Int32) (h0 : Heap) (n0 : Nat) (v : Option Value) (h : Heap) (L : List Loc) : Prop := v = some (.int 0) ∧ Fr n0 L ∧ h = h0
set_option maxRecDepth 65536 in
set_option maxHeartbeats 40000000 in
theorem rmIsEmptyU (l : Launch) (Z : State) (a0 : Array Value) (hw : ∀ d ∈ tables_1, d.before a0 Z = true) (ws : List Jvm.Cond) (a1 : Addr) (cs : List Int32) (t1 : Addr) (k1 : ClassId) (cs0 : Int32) (h0 : Heap) (n0 : Nat) (O0 : Old Z n0 h0) (S_CS : SCS Z cs0) (c_CS : ¬ (cs0 = (0 : Int32))) (E1 : Exa Z h0 a1 "java/lang/String") (F1 : Fld Z h0 a1 "java/lang/String" "value" "[B" (.ref t1)) (F2 : Fld Z h0 a1 "java/lang/String" "coder" "B" (.int 1)) (V1 : Arv Z h0 t1 k1 .byte (Int32.ofNat (2 * cs.length)) (u16 cs) (.int 0)) (hn : cs.length ≤ 257) (h0n : 0 < cs.length) :
  MetFree l mN33 (head1 (Jvm.Cond.code mN33 jdk_42_method_55_code 1 (some .boolean) :: ws) (Rm 0 0 0 0)) (fun a U => a = #[(.ref a1)] ∧ Z.Warmed39 U.vm ∧ U.heap = h0) (fun _ _ _ _ _ => True) (fun _ U o U' => ∃ v L, o = .returned v ∧ Q_rmIsEmptyU Z a1 cs t1 k1 cs0 h0 n0 v U'.heap L ∧ FrameEnd U o U' L (Rm 0 0 0 0).cells (Rm 0 0 0 0).slots) := by
 refine MetFree.of_bodySF (plainFor_of_name pn_7) hisR ?_
 intro p e s m args below meth c s₁ Bd hml0 hP hK
 obtain ⟨rfl, hZ, hh⟩ := hP
 have hx := Bd.exec
 have hby := Bd.bytes
 have hml : c.maxLocals = 1 := hml0
 have hown : s.vm.findClass "java/lang/String" = some m.cls := findClass_of_methodNamed Bd.named
 have hnm := (name_of_methodNamed Bd.named Bd.method).1
 have X0 : Stand p l e (Rm 0 0 0 0) s m #[(.ref a1)] below meth c s₁ [] 0 0 := Stand.of_body Bd
 have e0 : s₁.heap = h0 := by rw [← hh, Bd.state]; rfl
 have N0 := Fr.nil n0
 have hn0 : n0 ≤ h0.size := O0.1 ▸ O0.2.1
 have pre0 : ∀ t, SS p e below s₁ m 0 #[vR a1] [] t → Steps p.tables e below (s₁.setTop (entryFrame m #[(.ref a1)] 1)) t := fun t k => castTop (ef_rmIsEmptyU m a1) k
 have hn31 : cs.length < 2 ^ 31 := by omega
 obtain ⟨T101, X101, e101, st101⟩ := getF X0 hx hZ hown (host := "") (Or.inl (tw hw 29 rfl)) Via.refl e0 F1 (g := (mkF m 1 #[vR a1] [(.ref a1)])) rfl rfl (hb hby d7_1)
 obtain ⟨cl102, Ar102, q102, S102, Nn102, H102, G102⟩ := id V1
 obtain ⟨fs, hr, hrun, hended, hW, hsame⟩ := X101.leave (v := some (.int 0)) (fun h => by rw [Bd.returns] at h; cases h)
 refine ⟨_, _, pre0 _ ?_, hrun, hended, _, _, rfl, ?_, ⟨_, rfl⟩, hW, hsame.mono (by decide) (by decide)⟩
 ·skip
  show SS p e below s₁ m 0 #[vR a1] [] _
  refine XS.aloadN X0.here hx rfl (hb hby d7_0) rfl rfl ?_
  show SS p e below s₁ m 1 #[vR a1] [(.ref a1)] _
  refine st101 _ ?_
  show SS p e below T101 m 4 #[vR a1] [(.ref t1)] _
  refine X101.arraylength hx (by rw [e101]; exact Ar102.1) (State.isArrayOf_alike hZ.alike Ar102.2.1) (g := (mkF m 4 #[vR a1] [(.ref t1)])) rfl rfl (hb hby d7_4) _ ?_
  rw [len_of S102 Nn102]
  refine XS.ifYes X101.here hx rfl (pc0 := 5) (pc' := 12) rfl (hb hby d7_5) rfl ((if0 _ _).trans (feq (fun q => by have := (own_eqn (j := 0) (by omega) (by decide)).mp q; omega : ¬ ((Int32.ofNat (2 * cs.length)) = (0 : Int32)))).2) (by decide) (by decide) ?_
  refine XS.iconst X101.here hx rfl (hb hby d7_12) ?_
  show SS p e below T101 m 13 #[vR a1] [(.int 0)] _
  exact retN X101 hx (t := .boolean) Bd.returns (by simp) (hb hby d7_13) hr
 ·show Q_rmIsEmptyU Z a1 cs t1 k1 cs0 h0 n0 _ T101.heap _
  rw [e101]
  exact ⟨rfl, N0, rfl⟩
theorem d6_0 : decode cD34 0 = .ok (.aload_n 0, 1) := by decide +kernel
theorem d6_1 : decode cD34 1 = .ok (.invokevirtual 87, 3) := by decide +kernel
theorem d6_4 : decode cD34 4 = .ok (.ifCond .ne 30, 3) := by decide +kernel
theorem d6_34 : decode cD34 34 = .ok (.iconst 0, 1) := by decide +kernel
theorem d6_35 : decode cD34 35 = .ok (.ireturn, 1) := by decide +kernel
theorem pn_6 : plainName "com/example/coterie/coterie/job/Job" = true := by first | (simp [plainName, overriddenIn]; done) | decide +kernel
theorem ef_rmWfE (m : MethodId) (y0 : Addr) : entryFrame m #[(.ref y0)] 1 = (mkF m 0 #[vR y0] []) := by first | (simp [entryFrame, mkF, argsToLocals, Value.category]; done) | rfl
def Q_rmWfE (Z : State) (a1 : Addr) (bs : List Int32) (t1 : Addr) (k1 : ClassId) (cs0 : Int32) (h0 : Heap) (n0 : Nat) (v : Option Value) (h : Heap) (L : List Loc) : Prop := v = some (.int 0) ∧ Fr n0 L ∧ h = h0
set_option maxRecDepth 65536 in
set_option maxHeartbeats 40000000 in
theorem rmWfE (l : Launch) (Z : State) (a0 : Array Value) (hw : ∀ d ∈ tables_1, d.before a0 Z = true) (ws : List Jvm.Cond) (a1 : Addr) (bs : List Int32) (t1 : Addr) (k1 : ClassId) (cs0 : Int32) (h0 : Heap) (n0 : Nat) (O0 : Old Z n0 h0) (S_CS : SCS Z cs0) (c_CS : ¬ (cs0 = (0 : Int32))) (E1 : Exa Z h0 a1 "java/lang/String") (F1 : Fld Z h0 a1 "java/lang/String" "value" "[B" (.ref t1)) (F2 : Fld Z h0 a1 "java/lang/String" "coder" "B" (.int 0)) (V1 : Arv Z h0 t1 k1 .byte (Int32.ofNat bs.length) (bs.map Value.int) (.int 0)) (hn : bs.length ≤ 257) (hz : bs.length = 0) :
  MetFree l mN34 (head1 (Jvm.Cond.code mN34 prog_13_method_4_code 1 (some .boolean) :: ws) (Rm 1 0 0 30)) (fun a U => a = #[(.ref a1)] ∧ Z.Warmed39 U.vm ∧ U.heap = h0) (fun _ _ _ _ _ => True) (fun _ U o U' => ∃ v L, o = .returned v ∧ Q_rmWfE Z a1 bs t1 k1 cs0 h0 n0 v U'.heap L ∧ FrameEnd U o U' L (Rm 1 0 0 30).cells (Rm 1 0 0 30).slots) := by
 refine MetFree.of_bodySF (plainFor_of_name pn_6) hisR ?_
 intro p e s m args below meth c s₁ Bd hml0 hP hK
 obtain ⟨rfl, hZ, hh⟩ := hP
 have hx := Bd.exec
 have hby := Bd.bytes
 have hml : c.maxLocals = 1 := hml0
 have hown : s.vm.findClass "com/example/coterie/coterie/job/Job" = some m.cls := findClass_of_methodNamed Bd.named
 have hnm := (name_of_methodNamed Bd.named Bd.method).1
 have X0 : Stand p l e (Rm 1 0 0 30) s m #[(.ref a1)] below meth c s₁ [] 0 0 := Stand.of_body Bd
 have e0 : s₁.heap = h0 := by rw [← hh, Bd.state]; rfl
 have N0 := Fr.nil n0
 have hn0 : n0 ≤ h0.size := O0.1 ▸ O0.2.1
 have pre0 : ∀ t, SS p e below s₁ m 0 #[vR a1] [] t → Steps p.tables e below (s₁.setTop (entryFrame m #[(.ref a1)] 1)) t := fun t k => castTop (ef_rmWfE m a1) k
 have hn31 : bs.length < 2 ^ 31 := by omega
 obtain ⟨cq101, kq101, q101a, q101b, q101c⟩ := isOf hZ e0 E1
 obtain ⟨_, _, ⟨T101, L101, k101, n101⟩, -, X101, ⟨Lc101, hQ101, l101, y101, z101⟩, st101⟩ := X0.virtualBack hx (y := mN33) (z := mN33) hown (mvT hZ (tw hw 35 rfl)) (mvT hZ (tw hw 36 rfl)) (notFace_of_selects (args := #[]) (mvT hZ (tw hw 38 rfl))) (mvT hZ (tw hw 38 rfl)) (mvT hZ (tw hw 37 rfl)) (by decide) (backOf (W := 0) (rmIsEmptyLE l Z a0 hw [] a1 bs t1 k1 cs0 h0 n0 O0 S_CS c_CS E1 F1 F2 V1 hn hz) hZ (tw hw 39 rfl) (tw hw 11 rfl) (by decide) (by decide)) q101a q101c (g := (mkF m 1 #[vR a1] [(.ref a1)])) rfl (by rw [hml]; rfl) (Steps.refl _) (argsL := []) (rest := []) (lenOf pd_6 rfl) rfl (by show 2 * 0 + _ ≤ _; exact Nat.le_of_eq rfl) (hb hby d6_1) (fun _ _ => ⟨rfl, e0, (by decide : 0 + 0 ≤ _), (by decide : 0 + 0 ≤ _)⟩)
 dsimp only [Pt.U, Pt.locs, Pt.cells, Pt.slots] at X101 l101 y101 z101 st101 hQ101
 subst l101 y101 z101
 obtain ⟨rfl, N101q, H101⟩ := hQ101
 have N101 := Fr.app N0 N101q
 obtain ⟨fs, hr, hrun, hended, hW, hsame⟩ := X101.leave (v := some (.int 0)) (fun h => by rw [Bd.returns] at h; cases h)
 refine ⟨_, _, pre0 _ ?_, hrun, hended, _, _, rfl, ?_, ⟨_, rfl⟩, hW, hsame.mono (by decide) (by decide)⟩
 ·skip
  show SS p e below s₁ m 0 #[vR a1] [] _
  refine XS.aloadN X0.here hx rfl (hb hby d6_0) rfl rfl ?_
  show SS p e below s₁ m 1 #[vR a1] [(.ref a1)] _
  refine st101.trans ?_
  refine XS.ifYes X101.here hx rfl (pc0 := 4) (pc' := 34) rfl (hb hby d6_4) rfl ((if0 _ _).trans (feq (by decide : ¬ ((1 : Int32) = (0 : Int32)))).2) (by decide) (by decide) ?_
  refine XS.iconst X101.here hx rfl (hb hby d6_34) ?_
  show SS p e below T101 m 35 #[vR a1] [(.int 0)] _
  exact retN X101 hx (t := .boolean) Bd.returns (by simp) (hb hby d6_35) hr
 ·show Q_rmWfE Z a1 bs t1 k1 cs0 h0 n0 _ T101.heap _
  rw [H101]
  exact ⟨rfl, N101, rfl⟩
theorem d6_7 : decode cD34 7 = .ok (.aload_n 0, 1) := by decide +kernel
theorem d6_8 : decode cD34 8 = .ok (.iconst 0, 1) := by decide +kernel
theorem d6_9 : decode cD34 9 = .ok (.aload_n 0, 1) := by decide +kernel
theorem d6_10 : decode cD34 10 = .ok (.invokevirtual 91, 3) := by decide +kernel
theorem d6_13 : decode cD34 13 = .ok (.invokevirtual 95, 3) := by decide +kernel
theorem d6_16 : decode cD34 16 = .ok (.sipush 256, 3) := by decide +kernel
theorem d6_19 : decode cD34 19 = .ok (.if_icmp .gt 15, 3) := by decide +kernel
theorem d6_22 : decode cD34 22 = .ok (.aload_n 0, 1) := by decide +kernel
theorem d6_23 : decode cD34 23 = .ok (.iconst 0, 1) := by decide +kernel
theorem d6_24 : decode cD34 24 = .ok (.invokevirtual 99, 3) := by decide +kernel
theorem d6_27 : decode cD34 27 = .ok (.ifCond .ge 7, 3) := by decide +kernel
theorem d6_30 : decode cD34 30 = .ok (.iconst 1, 1) := by decide +kernel
theorem d6_31 : decode cD34 31 = .ok (.goto 4, 3) := by decide +kernel
theorem ef_rmWfL (m : MethodId) (y0 : Addr) : entryFrame m #[(.ref y0)] 1 = (mkF m 0 #[vR y0] []) := by first | (simp [entryFrame, mkF, argsToLocals, Value.category]; done) | rfl
def Q_rmWfL (Z : State) (a1 : Addr) (bs : List Int32) (t1 : Addr) (k1 : ClassId) (cs0 : Int32) (m1 : Nat) (h0 : Heap) (n0 : Nat) (v : Option Value) (h : Heap) (L : List Loc) : Prop := v = some (.int (wfR bs.length m1 bs.length)) ∧ Fr n0 L ∧ h = h0
set_option maxRecDepth 65536 in
set_option maxHeartbeats 40000000 in
theorem rmWfL (l : Launch) (Z : State) (a0 : Array Value) (hw : ∀ d ∈ tables_1, d.before a0 Z = true) (ws : List Jvm.Cond) (a1 : Addr) (bs : List Int32) (t1 : Addr) (k1 : ClassId) (cs0 : Int32) (m1 : Nat) (h0 : Heap) (n0 : Nat) (O0 : Old Z n0 h0) (S_CS : SCS Z cs0) (c_CS : ¬ (cs0 = (0 : Int32))) (E1 : Exa Z h0 a1 "java/lang/String") (F1 : Fld Z h0 a1 "java/lang/String" "value" "[B" (.ref t1)) (F2 : Fld Z h0 a1 "java/lang/String" "coder" "B" (.int 0)) (V1 : Arv Z h0 t1 k1 .byte (Int32.ofNat bs.length) (bs.map Value.int) (.int 0)) (hn : bs.length ≤ 257) (h0n : 0 < bs.length) (hm : m1 ≤ bs.length) (hpre : ∀ j, j < m1 → ¬ ((bs.getD j 0) = (0 : Int32))) (hend : m1 < bs.length → (bs.getD m1 0) = (0 : Int32)) :
  MetFree l mN34 (head1 (Jvm.Cond.code mN34 prog_13_method_4_code 1 (some .boolean) :: ws) (Rm 7 0 0 160)) (fun a U => a = #[(.ref a1)] ∧ Z.Warmed39 U.vm ∧ U.heap = h0) (fun _ _ _ _ _ => True) (fun _ U o U' => ∃ v L, o = .returned v ∧ Q_rmWfL Z a1 bs t1 k1 cs0 m1 h0 n0 v U'.heap L ∧ FrameEnd U o U' L (Rm 7 0 0 160).cells (Rm 7 0 0 160).slots) := by
 refine MetFree.of_bodySF (plainFor_of_name pn_6) hisR ?_
 intro p e s m args below meth c s₁ Bd hml0 hP hK
 obtain ⟨rfl, hZ, hh⟩ := hP
 have hx := Bd.exec
 have hby := Bd.bytes
 have hml : c.maxLocals = 1 := hml0
 have hown : s.vm.findClass "com/example/coterie/coterie/job/Job" = some m.cls := findClass_of_methodNamed Bd.named
 have hnm := (name_of_methodNamed Bd.named Bd.method).1
 have X0 : Stand p l e (Rm 7 0 0 160) s m #[(.ref a1)] below meth c s₁ [] 0 0 := Stand.of_body Bd
 have e0 : s₁.heap = h0 := by rw [← hh, Bd.state]; rfl
 have N0 := Fr.nil n0
 have hn0 : n0 ≤ h0.size := O0.1 ▸ O0.2.1
 have pre0 : ∀ t, SS p e below s₁ m 0 #[vR a1] [] t → Steps p.tables e below (s₁.setTop (entryFrame m #[(.ref a1)] 1)) t := fun t k => castTop (ef_rmWfL m a1) k
 have hn31 : bs.length < 2 ^ 31 := by omega
 obtain ⟨cq101, kq101, q101a, q101b, q101c⟩ := isOf hZ e0 E1
 obtain ⟨_, _, ⟨T101, L101, k101, n101⟩, -, X101, ⟨Lc101, hQ101, l101, y101, z101⟩, st101⟩ := X0.virtualBack hx (y := mN33) (z := mN33) hown (mvT hZ (tw hw 35 rfl)) (mvT hZ (tw hw 36 rfl)) (notFace_of_selects (args := #[]) (mvT hZ (tw hw 38 rfl))) (mvT hZ (tw hw 38 rfl)) (mvT hZ (tw hw 37 rfl)) (by decide) (backOf (W := 0) (rmIsEmptyLN l Z a0 hw [] a1 bs t1 k1 cs0 h0 n0 O0 S_CS c_CS E1 F1 F2 V1 hn h0n) hZ (tw hw 39 rfl) (tw hw 11 rfl) (by decide) (by decide)) q101a q101c (g := (mkF m 1 #[vR a1] [(.ref a1)])) rfl (by rw [hml]; rfl) (Steps.refl _) (argsL := []) (rest := []) (lenOf pd_6 rfl) rfl (by show 2 * 0 + _ ≤ _; exact Nat.le_of_eq rfl) (hb hby d6_1) (fun _ _ => ⟨rfl, e0, (by decide : 0 + 0 ≤ _), (by decide : 0 + 0 ≤ _)⟩)
 dsimp only [Pt.U, Pt.locs, Pt.cells, Pt.slots] at X101 l101 y101 z101 st101 hQ101
 subst l101 y101 z101
 obtain ⟨rfl, N101q, H101⟩ := hQ101
 have N101 := Fr.app N0 N101q
 obtain ⟨cq102, kq102, q102a, q102b, q102c⟩ := isOf hZ H101 E1
 obtain ⟨_, _, ⟨T102, L102, k102, n102⟩, -, X102, ⟨Lc102, hQ102, l102, y102, z102⟩, st102⟩ := X101.virtualBack hx (y := mN12) (z := mN12) hown (mvT hZ (tw hw 70 rfl)) (mvT hZ (tw hw 71 rfl)) (notFace_of_selects (args := #[]) (mvT hZ (tw hw 73 rfl))) (mvT hZ (tw hw 73 rfl)) (mvT hZ (tw hw 72 rfl)) (by decide) (backOf (W := 2) (rmLenL l Z a0 hw [] a1 bs t1 k1 cs0 h0 n0 O0 S_CS c_CS E1 F1 F2 V1 hn) hZ (tw hw 74 rfl) (tw hw 11 rfl) (by decide) (by decide)) q102a q102c (g := (mkF m 10 #[vR a1] [(.ref a1), (.int 0), (.ref a1)])) rfl (by rw [hml]; rfl) (Steps.refl _) (argsL := []) (rest := [(.int 0), (.ref a1)]) (lenOf pd_14 rfl) rfl (by show 2 * 0 + _ ≤ _; exact Nat.le_of_eq rfl) (hb hby d6_10) (fun _ _ => ⟨rfl, H101, (by decide : 0 + 0 ≤ _), (by decide : 0 + 0 ≤ _)⟩)
 dsimp only [Pt.U, Pt.locs, Pt.cells, Pt.slots] at X102 l102 y102 z102 st102 hQ102
 subst l102 y102 z102
 obtain ⟨rfl, N102q, H102⟩ := hQ102
 have N102 := Fr.app N101 N102q
 obtain ⟨cq103, kq103, q103a, q103b, q103c⟩ := isOf hZ H102 E1
 obtain ⟨_, _, ⟨T103, L103, k103, n103⟩, -, X103, ⟨Lc103, hQ103, l103, y103, z103⟩, st103⟩ := X102.virtualBack hx (y := mN32) (z := mN32) hown (mvT hZ (tw hw 80 rfl)) (mvT hZ (tw hw 81 rfl)) (notFace_of_selects (args := #[]) (mvT hZ (tw hw 83 rfl))) (mvT hZ (tw hw 83 rfl)) (mvT hZ (tw hw 82 rfl)) (by decide) (backOf (W := 0) (rmCpcL l Z a0 hw [] a1 bs t1 k1 cs0 h0 n0 O0 S_CS c_CS E1 F1 F2 V1 hn h0n) hZ (tw hw 84 rfl) (tw hw 11 rfl) (by decide) (by decide)) q103a q103c (g := (mkF m 13 #[vR a1] [(.int (Int32.ofNat bs.length)), (.int 0), (.ref a1)])) rfl (by rw [hml]; rfl) (Steps.refl _) (argsL := [(.int 0), (.int (Int32.ofNat bs.length))]) (rest := []) (lenOf pd_16 rfl) rfl (by show 2 * 0 + _ ≤ _; exact Nat.le_of_eq rfl) (hb hby d6_13) (fun _ _ => ⟨rfl, H102, (by decide : 0 + 0 ≤ _), (by decide : 0 + 0 ≤ _)⟩)
 dsimp only [Pt.U, Pt.locs, Pt.cells, Pt.slots] at X103 l103 y103 z103 st103 hQ103
 subst l103 y103 z103
 obtain ⟨rfl, N103q, H103⟩ := hQ103
 have N103 := Fr.app N102 N103q
 have pre105 : ∀ t, SS p e below T103 m 19 #[vR a1] [(.int 256), (.int (Int32.ofNat bs.length))] t → Steps p.tables e below (s₁.setTop (entryFrame m #[(.ref a1)] 1)) t := by
  intro t kt
  refine pre0 _ ?_
  show SS p e below s₁ m 0 #[vR a1] [] _
  refine XS.aloadN X0.here hx rfl (hb hby d6_0) rfl rfl ?_
  show SS p e below s₁ m 1 #[vR a1] [(.ref a1)] _
  refine st101.trans ?_
  refine XS.ifNo X101.here hx rfl (hb hby d6_4) rfl ((if0 _ _).trans (teq (by decide : (0 : Int32) = (0 : Int32))).2) ?_
  refine XS.aloadN X101.here hx rfl (hb hby d6_7) rfl rfl ?_
  refine XS.iconst X101.here hx rfl (hb hby d6_8) ?_
  refine XS.aloadN X101.here hx rfl (hb hby d6_9) rfl rfl ?_
  show SS p e below T101 m 10 #[vR a1] [(.ref a1), (.int 0), (.ref a1)] _
  refine st102.trans ?_
  show SS p e below T102 m 13 #[vR a1] [(.int (Int32.ofNat bs.length)), (.int 0), (.ref a1)] _
  refine st103.trans ?_
  refine XS.sipush X103.here hx rfl (hb hby d6_16) ?_
  exact kt
 by_cases hc104 : (256 : Int32) < (Int32.ofNat bs.length)
 ·skip
  obtain ⟨fs, hr, hrun, hended, hW, hsame⟩ := X103.leave (v := some (.int 0)) (fun h => by rw [Bd.returns] at h; cases h)
  refine ⟨_, _, pre105 _ ?_, hrun, hended, _, _, rfl, ?_, ⟨_, rfl⟩, hW, hsame.mono (by decide) (by decide)⟩
  ·skip
   show SS p e below T103 m 19 #[vR a1] [(.int 256), (.int (Int32.ofNat bs.length))] _
   refine XS.icmpYes X103.here hx rfl (pc0 := 19) (pc' := 34) rfl (hb hby d6_19) rfl (tlt hc104).2.2.1 (by decide) (by decide) ?_
   refine XS.iconst X103.here hx rfl (hb hby d6_34) ?_
   show SS p e below T103 m 35 #[vR a1] [(.int 0)] _
   exact retN X103 hx (t := .boolean) Bd.returns (by simp) (hb hby d6_35) hr
  ·show Q_rmWfL Z a1 bs t1 k1 cs0 m1 h0 n0 _ T103.heap _
   rw [H103]
   exact ⟨by rw [wfR, if_pos (Or.inl ((own_lt (i := 256) (by decide) (by omega)).mp hc104))], N103, rfl⟩
 ·skip
  obtain ⟨cq106, kq106, q106a, q106b, q106c⟩ := isOf hZ H103 E1
  obtain ⟨_, _, ⟨T106, L106, k106, n106⟩, -, X106, ⟨Lc106, hQ106, l106, y106, z106⟩, st106⟩ := X103.virtualBack hx (y := mN31) (z := mN31) hown (mvT hZ (tw hw 111 rfl)) (mvT hZ (tw hw 112 rfl)) (notFace_of_selects (args := #[]) (mvT hZ (tw hw 114 rfl))) (mvT hZ (tw hw 114 rfl)) (mvT hZ (tw hw 113 rfl)) (by decide) (backOf (W := 0) (rmIx1L l Z a0 hw [] a1 bs t1 k1 cs0 m1 h0 n0 O0 S_CS c_CS E1 F1 F2 V1 hn h0n hm hpre hend) hZ (tw hw 115 rfl) (tw hw 11 rfl) (by decide) (by decide)) q106a q106c (g := (mkF m 24 #[vR a1] [(.int 0), (.ref a1)])) rfl (by rw [hml]; rfl) (Steps.refl _) (argsL := [(.int 0)]) (rest := []) (lenOf pd_10 rfl) rfl (by show 2 * 0 + _ ≤ _; exact Nat.le_of_eq rfl) (hb hby d6_24) (fun _ _ => ⟨rfl, H103, (by decide : 0 + 0 ≤ _), (by decide : 0 + 0 ≤ _)⟩)
  dsimp only [Pt.U, Pt.locs, Pt.cells, Pt.slots] at X106 l106 y106 z106 st106 hQ106
  subst l106 y106 z106
  obtain ⟨rfl, N106q, H106⟩ := hQ106
  have N106 := Fr.app N103 N106q
  have pre108 : ∀ t, SS p e below T106 m 27 #[vR a1] [(.int (if m1 < bs.length then Int32.ofNat m1 else (-1 : Int32)))] t → Steps p.tables e below (s₁.setTop (entryFrame m #[(.ref a1)] 1)) t := by
   intro t kt
   refine pre105 _ ?_
   show SS p e below T103 m 19 #[vR a1] [(.int 256), (.int (Int32.ofNat bs.length))] _
   refine XS.icmpNo X103.here hx rfl (hb hby d6_19) rfl (flt hc104).2.2.1 ?_
   refine XS.aloadN X103.here hx rfl (hb hby d6_22) rfl rfl ?_
   refine XS.iconst X103.here hx rfl (hb hby d6_23) ?_
   show SS p e below T103 m 24 #[vR a1] [(.int 0), (.ref a1)] _
   refine st106.trans ?_
   exact kt
  by_cases hc107 : (if m1 < bs.length then Int32.ofNat m1 else (-1 : Int32)) < (0 : Int32)
  ·skip
   obtain ⟨fs, hr, hrun, hended, hW, hsame⟩ := X106.leave (v := some (.int 1)) (fun h => by rw [Bd.returns] at h; cases h)
   refine ⟨_, _, pre108 _ ?_, hrun, hended, _, _, rfl, ?_, ⟨_, rfl⟩, hW, hsame.mono (by decide) (by decide)⟩
   ·skip
    show SS p e below T106 m 27 #[vR a1] [(.int (if m1 < bs.length then Int32.ofNat m1 else (-1 : Int32)))] _
    refine XS.ifNo X106.here hx rfl (hb hby d6_27) rfl ((if0 _ _).trans (tlt hc107).2.1) ?_
    refine XS.iconst X106.here hx rfl (hb hby d6_30) ?_
    refine XS.goto X106.here hx rfl (pc0 := 31) (pc' := 35) rfl (hb hby d6_31) (by decide) (by decide) ?_
    show SS p e below T106 m 35 #[vR a1] [(.int 1)] _
    exact retN X106 hx (t := .boolean) Bd.returns (by simp) (hb hby d6_35) hr
   ·show Q_rmWfL Z a1 bs t1 k1 cs0 m1 h0 n0 _ T106.heap _
    rw [H106]
    exact ⟨by rw [wfR, if_neg (fun q => q.elim (fun q => hc104 ((own_lt (i := 256) (by decide) (by omega)).mpr q)) ((own_ixneg (by omega)).mp hc107))], N106, rfl⟩
  ·skip
   obtain ⟨fs, hr, hrun, hended, hW, hsame⟩ := X106.leave (v := some (.int 0)) (fun h => by rw [Bd.returns] at h; cases h)
   refine ⟨_, _, pre108 _ ?_, hrun, hended, _, _, rfl, ?_, ⟨_, rfl⟩, hW, hsame.mono (by decide) (by decide)⟩
   ·skip
    show SS p e below T106 m 27 #[vR a1] [(.int (if m1 < bs.length then Int32.ofNat m1 else (-1 : Int32)))] _
    refine XS.ifYes X106.here hx rfl (pc0 := 27) (pc' := 34) rfl (hb hby d6_27) rfl ((if0 _ _).trans (flt hc107).2.1) (by decide) (by decide) ?_
    refine XS.iconst X106.here hx rfl (hb hby d6_34) ?_
    show SS p e below T106 m 35 #[vR a1] [(.int 0)] _
    exact retN X106 hx (t := .boolean) Bd.returns (by simp) (hb hby d6_35) hr
   ·show Q_rmWfL Z a1 bs t1 k1 cs0 m1 h0 n0 _ T106.heap _
    rw [H106]
    exact ⟨by rw [wfR, if_pos (Or.inr (Decidable.byContradiction fun q => hc107 ((own_ixneg (by omega)).mpr q)))], N106, rfl⟩
theorem ef_rmWfU (m : MethodId) (y0 : Addr) : entryFrame m #[(.ref y0)] 1 = (mkF m 0 #[vR y0] []) := by first | (simp [entryFrame, mkF, argsToLocals, Value.category]; done) | rfl
def Q_rmWfU (Z : State) (a1 : Addr) (cs : List Int32) (t1 : Addr) (k1 : ClassId) (cs0 : Int32) (m1 : Nat) (fm : Value) (h0 : Heap) (n0 : Nat) (v : Option Value) (h : Heap) (L : List Loc) : Prop := v = some (.int (wfR (cs.length - prs cs) m1 cs.length)) ∧ Fr n0 L ∧ h = h0
set_option maxRecDepth 65536 in
set_option maxHeartbeats 40000000 in
theorem rmWfU (l : Launch) (Z : State) (a0 : Array Value) (hw : ∀ d ∈ tables_1, d.before a0 Z = true) (ws : List Jvm.Cond) (a1 : Addr) (cs : List Int32) (t1 : Addr) (k1 : ClassId) (cs0 : Int32) (m1 : Nat) (fm : Value) (h0 : Heap) (n0 : Nat) (O0 : Old Z n0 h0) (S_CS : SCS Z cs0) (c_CS : ¬ (cs0 = (0 : Int32))) (E1 : Exa Z h0 a1 "java/lang/String") (F1 : Fld Z h0 a1 "java/lang/String" "value" "[B" (.ref t1)) (F2 : Fld Z h0 a1 "java/lang/String" "coder" "B" (.int 1)) (V1 : Arv Z h0 t1 k1 .byte (Int32.ofNat (2 * cs.length)) (u16 cs) (.int 0)) (hn : cs.length ≤ 257) (h0n : 0 < cs.length) (hm : m1 ≤ cs.length) (hpre : ∀ j, j < m1 → ¬ ((cs.getD j 0) = (0 : Int32))) (hend : m1 < cs.length → (cs.getD m1 0) = (0 : Int32)) (S_AD : SAD Z) (S_HI : SHI Z) (S_LO : SLO Z) (hcs : ∀ c ∈ cs, ¬ c < 0 ∧ ¬ (65535 : Int32) < c) (S_FM : SFM Z fm) (r_FM : fm.isRef = true) :
  MetFree l mN34 (head1 (Jvm.Cond.code mN34 prog_13_method_4_code 1 (some .boolean) :: ws) (Rm 7 0 0 160)) (fun a U => a = #[(.ref a1)] ∧ Z.Warmed39 U.vm ∧ U.heap = h0) (fun _ _ _ _ _ => True) (fun _ U o U' => ∃ v L, o = .returned v ∧ Q_rmWfU Z a1 cs t1 k1 cs0 m1 fm h0 n0 v U'.heap L ∧ FrameEnd U o U' L (Rm 7 0 0 160).cells (Rm 7 0 0 160).slots) := by
 refine MetFree.of_bodySF (plainFor_of_name pn_6) hisR ?_
 intro p e s m args below meth c s₁ Bd hml0 hP hK
 obtain ⟨rfl, hZ, hh⟩ := hP
 have hx := Bd.exec
 have hby := Bd.bytes
 have hml : c.maxLocals = 1 := hml0
 have hown : s.vm.findClass "com/example/coterie/coterie/job/Job" = some m.cls := findClass_of_methodNamed Bd.named
 have hnm := (name_of_methodNamed Bd.named Bd.method).1
 have X0 : Stand p l e (Rm 7 0 0 160) s m #[(.ref a1)] below meth c s₁ [] 0 0 := Stand.of_body Bd
 have e0 : s₁.heap = h0 := by rw [← hh, Bd.state]; rfl
 have N0 := Fr.nil n0
 have hn0 : n0 ≤ h0.size := O0.1 ▸ O0.2.1
 have pre0 : ∀ t, SS p e below s₁ m 0 #[vR a1] [] t → Steps p.tables e below (s₁.setTop (entryFrame m #[(.ref a1)] 1)) t := fun t k => castTop (ef_rmWfU m a1) k
 have hn31 : cs.length < 2 ^ 31 := by omega
 obtain ⟨cq101, kq101, q101a, q101b, q101c⟩ := isOf hZ e0 E1
 obtain ⟨_, _, ⟨T101, L101, k101, n101⟩, -, X101, ⟨Lc101, hQ101, l101, y101, z101⟩, st101⟩ := X0.virtualBack hx (y := mN33) (z := mN33) hown (mvT hZ (tw hw 35 rfl)) (mvT hZ (tw hw 36 rfl)) (notFace_of_selects (args := #[]) (mvT hZ (tw hw 38 rfl))) (mvT hZ (tw hw 38 rfl)) (mvT hZ (tw hw 37 rfl)) (by decide) (backOf (W := 0) (rmIsEmptyU l Z a0 hw [] a1 cs t1 k1 cs0 h0 n0 O0 S_CS c_CS E1 F1 F2 V1 hn h0n) hZ (tw hw 39 rfl) (tw hw 11 rfl) (by decide) (by decide)) q101a q101c (g := (mkF m 1 #[vR a1] [(.ref a1)])) rfl (by rw [hml]; rfl) (Steps.refl _) (argsL := []) (rest := []) (lenOf pd_6 rfl) rfl (by show 2 * 0 + _ ≤ _; exact Nat.le_of_eq rfl) (hb hby d6_1) (fun _ _ => ⟨rfl, e0, (by decide : 0 + 0 ≤ _), (by decide : 0 + 0 ≤ _)⟩)
 dsimp only [Pt.U, Pt.locs, Pt.cells, Pt.slots] at X101 l101 y101 z101 st101 hQ101
 subst l101 y101 z101
 obtain ⟨rfl, N101q, H101⟩ := hQ101
 have N101 := Fr.app N0 N101q
 obtain ⟨cq102, kq102, q102a, q102b, q102c⟩ := isOf hZ H101 E1
 obtain ⟨_, _, ⟨T102, L102, k102, n102⟩, -, X102, ⟨Lc102, hQ102, l102, y102, z102⟩, st102⟩ := X101.virtualBack hx (y := mN12) (z := mN12) hown (mvT hZ (tw hw 70 rfl)) (mvT hZ (tw hw 71 rfl)) (notFace_of_selects (args := #[]) (mvT hZ (tw hw 73 rfl))) (mvT hZ (tw hw 73 rfl)) (mvT hZ (tw hw 72 rfl)) (by decide) (backOf (W := 2) (rmLenU l Z a0 hw [] a1 cs t1 k1 cs0 h0 n0 O0 S_CS c_CS E1 F1 F2 V1 hn) hZ (tw hw 74 rfl) (tw hw 11 rfl) (by decide) (by decide)) q102a q102c (g := (mkF m 10 #[vR a1] [(.ref a1), (.int 0), (.ref a1)])) rfl (by rw [hml]; rfl) (Steps.refl _) (argsL := []) (rest := [(.int 0), (.ref a1)]) (lenOf pd_14 rfl) rfl (by show 2 * 0 + _ ≤ _; exact Nat.le_of_eq rfl) (hb hby d6_10) (fun _ _ => ⟨rfl, H101, (by decide : 0 + 0 ≤ _), (by decide : 0 + 0 ≤ _)⟩)
 dsimp only [Pt.U, Pt.locs, Pt.cells, Pt.slots] at X102 l102 y102 z102 st102 hQ102
 subst l102 y102 z102
 obtain ⟨rfl, N102q, H102⟩ := hQ102
 have N102 := Fr.app N101 N102q
 obtain ⟨cq103, kq103, q103a, q103b, q103c⟩ := isOf hZ H102 E1
 obtain ⟨_, _, ⟨T103, L103, k103, n103⟩, -, X103, ⟨Lc103, hQ103, l103, y103, z103⟩, st103⟩ := X102.virtualBack hx (y := mN32) (z := mN32) hown (mvT hZ (tw hw 80 rfl)) (mvT hZ (tw hw 81 rfl)) (notFace_of_selects (args := #[]) (mvT hZ (tw hw 83 rfl))) (mvT hZ (tw hw 83 rfl)) (mvT hZ (tw hw 82 rfl)) (by decide) (backOf (W := 0) (rmCpcU l Z a0 hw [] a1 cs t1 k1 cs0 h0 n0 O0 S_CS c_CS E1 F1 F2 V1 hn h0n S_AD S_HI S_LO hcs) hZ (tw hw 84 rfl) (tw hw 11 rfl) (by decide) (by decide)) q103a q103c (g := (mkF m 13 #[vR a1] [(.int (Int32.ofNat cs.length)), (.int 0), (.ref a1)])) rfl (by rw [hml]; rfl) (Steps.refl _) (argsL := [(.int 0), (.int (Int32.ofNat cs.length))]) (rest := []) (lenOf pd_16 rfl) rfl (by show 2 * 0 + _ ≤ _; exact Nat.le_of_eq rfl) (hb hby d6_13) (fun _ _ => ⟨rfl, H102, (by decide : 0 + 0 ≤ _), (by decide : 0 + 0 ≤ _)⟩)
 dsimp only [Pt.U, Pt.locs, Pt.cells, Pt.slots] at X103 l103 y103 z103 st103 hQ103
 subst l103 y103 z103
 obtain ⟨rfl, N103q, H103⟩ := hQ103
 have N103 := Fr.app N102 N103q
 have pre105 : ∀ t, SS p e below T103 m 19 #[vR a1] [(.int 256), (.int (Int32.ofNat (cs.length - prs cs)))] t → Steps p.tables e below (s₁.setTop (entryFrame m #[(.ref a1)] 1)) t := by
  intro t kt
  refine pre0 _ ?_
  show SS p e below s₁ m 0 #[vR a1] [] _
  refine XS.aloadN X0.here hx rfl (hb hby d6_0) rfl rfl ?_
  show SS p e below s₁ m 1 #[vR a1] [(.ref a1)] _
  refine st101.trans ?_
  refine XS.ifNo X101.here hx rfl (hb hby d6_4) rfl ((if0 _ _).trans (teq (by decide : (0 : Int32) = (0 : Int32))).2) ?_
  refine XS.aloadN X101.here hx rfl (hb hby d6_7) rfl rfl ?_
  refine XS.iconst X101.here hx rfl (hb hby d6_8) ?_
  refine XS.aloadN X101.here hx rfl (hb hby d6_9) rfl rfl ?_
  show SS p e below T101 m 10 #[vR a1] [(.ref a1), (.int 0), (.ref a1)] _
  refine st102.trans ?_
  show SS p e below T102 m 13 #[vR a1] [(.int (Int32.ofNat cs.length)), (.int 0), (.ref a1)] _
  refine st103.trans ?_
  refine XS.sipush X103.here hx rfl (hb hby d6_16) ?_
  exact kt
 by_cases hc104 : (256 : Int32) < (Int32.ofNat (cs.length - prs cs))
 ·skip
  obtain ⟨fs, hr, hrun, hended, hW, hsame⟩ := X103.leave (v := some (.int 0)) (fun h => by rw [Bd.returns] at h; cases h)
  refine ⟨_, _, pre105 _ ?_, hrun, hended, _, _, rfl, ?_, ⟨_, rfl⟩, hW, hsame.mono (by decide) (by decide)⟩
  ·skip
   show SS p e below T103 m 19 #[vR a1] [(.int 256), (.int (Int32.ofNat (cs.length - prs cs)))] _
   refine XS.icmpYes X103.here hx rfl (pc0 := 19) (pc' := 34) rfl (hb hby d6_19) rfl (tlt hc104).2.2.1 (by decide) (by decide) ?_
   refine XS.iconst X103.here hx rfl (hb hby d6_34) ?_
   show SS p e below T103 m 35 #[vR a1] [(.int 0)] _
   exact retN X103 hx (t := .boolean) Bd.returns (by simp) (hb hby d6_35) hr
  ·show Q_rmWfU Z a1 cs t1 k1 cs0 m1 fm h0 n0 _ T103.heap _
   rw [H103]
   exact ⟨by rw [wfR, if_pos (Or.inl ((own_lt (i := 256) (by decide) (by omega)).mp hc104))], N103, rfl⟩
 ·skip
  obtain ⟨cq106, kq106, q106a, q106b, q106c⟩ := isOf hZ H103 E1
  obtain ⟨_, _, ⟨T106, L106, k106, n106⟩, -, X106, ⟨Lc106, hQ106, l106, y106, z106⟩, st106⟩ := X103.virtualBack hx (y := mN31) (z := mN31) hown (mvT hZ (tw hw 111 rfl)) (mvT hZ (tw hw 112 rfl)) (notFace_of_selects (args := #[]) (mvT hZ (tw hw 114 rfl))) (mvT hZ (tw hw 114 rfl)) (mvT hZ (tw hw 113 rfl)) (by decide) (backOf (W := 0) (rmIx1U l Z a0 hw [] a1 cs t1 k1 cs0 m1 fm h0 n0 O0 S_CS c_CS E1 F1 F2 V1 hn h0n hm hpre hend S_AD S_HI S_LO hcs S_FM r_FM) hZ (tw hw 115 rfl) (tw hw 11 rfl) (by decide) (by decide)) q106a q106c (g := (mkF m 24 #[vR a1] [(.int 0), (.ref a1)])) rfl (by rw [hml]; rfl) (Steps.refl _) (argsL := [(.int 0)]) (rest := []) (lenOf pd_10 rfl) rfl (by show 2 * 0 + _ ≤ _; exact Nat.le_of_eq rfl) (hb hby d6_24) (fun _ _ => ⟨rfl, H103, (by decide : 0 + 0 ≤ _), (by decide : 0 + 0 ≤ _)⟩)
  dsimp only [Pt.U, Pt.locs, Pt.cells, Pt.slots] at X106 l106 y106 z106 st106 hQ106
  subst l106 y106 z106
  obtain ⟨rfl, N106q, H106⟩ := hQ106
  have N106 := Fr.app N103 N106q
  have pre108 : ∀ t, SS p e below T106 m 27 #[vR a1] [(.int (if m1 < cs.length then Int32.ofNat m1 else (-1 : Int32)))] t → Steps p.tables e below (s₁.setTop (entryFrame m #[(.ref a1)] 1)) t := by
   intro t kt
   refine pre105 _ ?_
   show SS p e below T103 m 19 #[vR a1] [(.int 256), (.int (Int32.ofNat (cs.length - prs cs)))] _
   refine XS.icmpNo X103.here hx rfl (hb hby d6_19) rfl (flt hc104).2.2.1 ?_
   refine XS.aloadN X103.here hx rfl (hb hby d6_22) rfl rfl ?_
   refine XS.iconst X103.here hx rfl (hb hby d6_23) ?_
   show SS p e below T103 m 24 #[vR a1] [(.int 0), (.ref a1)] _
   refine st106.trans ?_
   exact kt
  by_cases hc107 : (if m1 < cs.length then Int32.ofNat m1 else (-1 : Int32)) < (0 : Int32)
  ·skip
   obtain ⟨fs, hr, hrun, hended, hW, hsame⟩ := X106.leave (v := some (.int 1)) (fun h => by rw [Bd.returns] at h; cases h)
   refine ⟨_, _, pre108 _ ?_, hrun, hended, _, _, rfl, ?_, ⟨_, rfl⟩, hW, hsame.mono (by decide) (by decide)⟩
   ·skip
    show SS p e below T106 m 27 #[vR a1] [(.int (if m1 < cs.length then Int32.ofNat m1 else (-1 : Int32)))] _
    refine XS.ifNo X106.here hx rfl (hb hby d6_27) rfl ((if0 _ _).trans (tlt hc107).2.1) ?_
    refine XS.iconst X106.here hx rfl (hb hby d6_30) ?_
    refine XS.goto X106.here hx rfl (pc0 := 31) (pc' := 35) rfl (hb hby d6_31) (by decide) (by decide) ?_
    show SS p e below T106 m 35 #[vR a1] [(.int 1)] _
    exact retN X106 hx (t := .boolean) Bd.returns (by simp) (hb hby d6_35) hr
   ·show Q_rmWfU Z a1 cs t1 k1 cs0 m1 fm h0 n0 _ T106.heap _
    rw [H106]
    exact ⟨by rw [wfR, if_neg (fun q => q.elim (fun q => hc104 ((own_lt (i := 256) (by decide) (by omega)).mpr q)) ((own_ixneg (by omega)).mp hc107))], N106, rfl⟩
  ·skip
   obtain ⟨fs, hr, hrun, hended, hW, hsame⟩ := X106.leave (v := some (.int 0)) (fun h => by rw [Bd.returns] at h; cases h)
   refine ⟨_, _, pre108 _ ?_, hrun, hended, _, _, rfl, ?_, ⟨_, rfl⟩, hW, hsame.mono (by decide) (by decide)⟩
   ·skip
    show SS p e below T106 m 27 #[vR a1] [(.int (if m1 < cs.length then Int32.ofNat m1 else (-1 : Int32)))] _
    refine XS.ifYes X106.here hx rfl (pc0 := 27) (pc' := 34) rfl (hb hby d6_27) rfl ((if0 _ _).trans (flt hc107).2.1) (by decide) (by decide) ?_
    refine XS.iconst X106.here hx rfl (hb hby d6_34) ?_
    show SS p e below T106 m 35 #[vR a1] [(.int 0)] _
    exact retN X106 hx (t := .boolean) Bd.returns (by simp) (hb hby d6_35) hr
   ·show Q_rmWfU Z a1 cs t1 k1 cs0 m1 fm h0 n0 _ T106.heap _
    rw [H106]
    exact ⟨by rw [wfR, if_pos (Or.inr (Decidable.byContradiction fun q => hc107 ((own_ixneg (by omega)).mpr q)))], N106, rfl⟩
theorem d1_0 : decode cD35 0 = .ok (.iload_n 0, 1) := by decide +kernel
theorem d1_1 : decode cD35 1 = .ok (.iconst 2, 1) := by decide +kernel
theorem d1_2 : decode cD35 2 = .ok (.iushr, 1) := by decide +kernel
theorem d1_3 : decode cD35 3 = .ok (.istore_n 1, 1) := by decide +kernel
theorem d1_4 : decode cD35 4 = .ok (.iload_n 0, 1) := by decide +kernel
theorem d1_5 : decode cD35 5 = .ok (.iconst 3, 1) := by decide +kernel
theorem d1_6 : decode cD35 6 = .ok (.iand, 1) := by decide +kernel
theorem d1_7 : decode cD35 7 = .ok (.istore_n 2, 1) := by decide +kernel
theorem d1_8 : decode cD35 8 = .ok (.iload_n 2, 1) := by decide +kernel
theorem d1_9 : decode cD35 9 = .ok (.ifCond .ne 6, 3) := by decide +kernel
theorem d1_12 : decode cD35 12 = .ok (.iload_n 1, 1) := by decide +kernel
theorem d1_13 : decode cD35 13 = .ok (.i2c, 1) := by decide +kernel
theorem d1_14 : decode cD35 14 = .ok (.ireturn, 1) := by decide +kernel
theorem d1_15 : decode cD35 15 = .ok (.iload_n 2, 1) := by decide +kernel
theorem d1_16 : decode cD35 16 = .ok (.iconst 1, 1) := by decide +kernel
theorem d1_17 : decode cD35 17 = .ok (.if_icmp .ne 13, 3) := by decide +kernel
theorem d1_20 : decode cD35 20 = .ok (.ldc 7, 2) := by decide +kernel
theorem d1_22 : decode cD35 22 = .ok (.iload_n 1, 1) := by decide +kernel
theorem d1_23 : decode cD35 23 = .ok (.sipush 1023, 3) := by decide +kernel
theorem d1_26 : decode cD35 26 = .ok (.iand, 1) := by decide +kernel
theorem d1_27 : decode cD35 27 = .ok (.iadd, 1) := by decide +kernel
theorem d1_28 : decode cD35 28 = .ok (.i2c, 1) := by decide +kernel
theorem d1_29 : decode cD35 29 = .ok (.ireturn, 1) := by decide +kernel
theorem d1_30 : decode cD35 30 = .ok (.iload_n 2, 1) := by decide +kernel
theorem d1_31 : decode cD35 31 = .ok (.iconst 2, 1) := by decide +kernel
theorem d1_32 : decode cD35 32 = .ok (.if_icmp .ne 13, 3) := by decide +kernel
theorem d1_35 : decode cD35 35 = .ok (.ldc 8, 2) := by decide +kernel
theorem d1_37 : decode cD35 37 = .ok (.iload_n 1, 1) := by decide +kernel
theorem d1_38 : decode cD35 38 = .ok (.sipush 1023, 3) := by decide +kernel
theorem d1_41 : decode cD35 41 = .ok (.iand, 1) := by decide +kernel
theorem d1_42 : decode cD35 42 = .ok (.iadd, 1) := by decide +kernel
theorem d1_43 : decode cD35 43 = .ok (.i2c, 1) := by decide +kernel
theorem d1_44 : decode cD35 44 = .ok (.ireturn, 1) := by decide +kernel
theorem d1_45 : decode cD35 45 = .ok (.iload_n 1, 1) := by decide +kernel
theorem d1_46 : decode cD35 46 = .ok (.iconst 1, 1) := by decide +kernel
theorem d1_47 : decode cD35 47 = .ok (.iand, 1) := by decide +kernel
theorem d1_48 : decode cD35 48 = .ok (.i2c, 1) := by decide +kernel
theorem d1_49 : decode cD35 49 = .ok (.ireturn, 1) := by decide +kernel
theorem pn_1 : plainName "com/example/coterie/coterie/job/JobIsWellFormedKeyPinLaw" = true := by first | (simp [plainName, overriddenIn]; done) | decide +kernel
theorem ef_rmPick (m : MethodId) (y0 : Int32) : entryFrame m #[(.int y0)] 3 = (mkF m 0 #[vI y0, .unset, .unset] []) := by first | (simp [entryFrame, mkF, argsToLocals, Value.category]; done) | rfl
def Q_rmPick (Z : State) (p1 : Int32) (h0 : Heap) (n0 : Nat) (v : Option Value) (h : Heap) (L : List Loc) : Prop := ∃ c : Int32, v = some (.int c) ∧ Fr n0 L ∧ h = h0 ∧ (¬ c < 0 ∧ ¬ (65535 : Int32) < c)
set_option maxRecDepth 65536 in
set_option maxHeartbeats 40000000 in
theorem rmPick (l : Launch) (Z : State) (a0 : Array Value) (hw : ∀ d ∈ tables_1, d.before a0 Z = true) (ws : List Jvm.Cond) (p1 : Int32) (h0 : Heap) (n0 : Nat) (O0 : Old Z n0 h0) :
  MetFree l mN35 (head1 (Jvm.Cond.code mN35 method_2_code 3 (some .char) :: ws) (Rm 0 0 0 0)) (fun a U => a = #[(.int p1)] ∧ Z.Warmed39 U.vm ∧ U.heap = h0) (fun _ _ _ _ _ => True) (fun _ U o U' => ∃ v L, o = .returned v ∧ Q_rmPick Z p1 h0 n0 v U'.heap L ∧ FrameEnd U o U' L (Rm 0 0 0 0).cells (Rm 0 0 0 0).slots) := by
 refine MetFree.of_bodySF (plainFor_of_name pn_1) hisR ?_
 intro p e s m args below meth c s₁ Bd hml0 hP hK
 obtain ⟨rfl, hZ, hh⟩ := hP
 have hx := Bd.exec
 have hby := Bd.bytes
 have hml : c.maxLocals = 3 := hml0
 have hown : s.vm.findClass "com/example/coterie/coterie/job/JobIsWellFormedKeyPinLaw" = some m.cls := findClass_of_methodNamed Bd.named
 have hnm := (name_of_methodNamed Bd.named Bd.method).1
 have X0 : Stand p l e (Rm 0 0 0 0) s m #[(.int p1)] below meth c s₁ [] 0 0 := Stand.of_body Bd
 have e0 : s₁.heap = h0 := by rw [← hh, Bd.state]; rfl
 have N0 := Fr.nil n0
 have hn0 : n0 ≤ h0.size := O0.1 ▸ O0.2.1
 have pre0 : ∀ t, SS p e below s₁ m 0 #[vI p1, .unset, .unset] [] t → Steps p.tables e below (s₁.setTop (entryFrame m #[(.int p1)] 3)) t := fun t k => castTop (ef_rmPick m p1) k
 have pre102 : ∀ t, SS p e below s₁ m 9 #[vI p1, vI ((p1.toUInt32 >>> ((2 : Int32) &&& 31).toUInt32).toInt32), vI (p1 &&& (3 : Int32))] [(.int (p1 &&& (3 : Int32)))] t → Steps p.tables e below (s₁.setTop (entryFrame m #[(.int p1)] 3)) t := by
  intro t kt
  refine pre0 _ ?_
  show SS p e below s₁ m 0 #[vI p1, .unset, .unset] [] _
  refine XS.iloadN X0.here hx rfl (hb hby d1_0) rfl ?_
  refine XS.iconst X0.here hx rfl (hb hby d1_1) ?_
  show SS p e below s₁ m 2 #[vI p1, .unset, .unset] [(.int 2), (.int p1)] _
  refine XS.iushr X0.here hx rfl (hb hby d1_2) rfl ?_
  refine XS.istoreN X0.here hx rfl (hb hby d1_3) rfl (l' := #[vI p1, vI ((p1.toUInt32 >>> ((2 : Int32) &&& 31).toUInt32).toInt32), .unset]) rfl ?_
  refine XS.iloadN X0.here hx rfl (hb hby d1_4) rfl ?_
  refine XS.iconst X0.here hx rfl (hb hby d1_5) ?_
  refine XS.iand X0.here hx rfl (hb hby d1_6) rfl ?_
  refine XS.istoreN X0.here hx rfl (hb hby d1_7) rfl (l' := #[vI p1, vI ((p1.toUInt32 >>> ((2 : Int32) &&& 31).toUInt32).toInt32), vI (p1 &&& (3 : Int32))]) rfl ?_
  refine XS.iloadN X0.here hx rfl (hb hby d1_8) rfl ?_
  exact kt
 by_cases hc101 : (p1 &&& (3 : Int32)) = (0 : Int32)
 ·skip
  obtain ⟨fs, hr, hrun, hended, hW, hsame⟩ := X0.leave (v := some (.int (nar .char (((p1.toUInt32 >>> ((2 : Int32) &&& 31).toUInt32).toInt32).toUInt32.toUInt16.toUInt32.toInt32)))) (fun h => by rw [Bd.returns] at h; cases h)
  refine ⟨_, _, pre102 _ ?_, hrun, hended, _, _, rfl, ?_, ⟨_, rfl⟩, hW, hsame.mono (by decide) (by decide)⟩
  ·skip
   show SS p e below s₁ m 9 #[vI p1, vI ((p1.toUInt32 >>> ((2 : Int32) &&& 31).toUInt32).toInt32), vI (p1 &&& (3 : Int32))] [(.int (p1 &&& (3 : Int32)))] _
   refine XS.ifNo X0.here hx rfl (hb hby d1_9) rfl ((if0 _ _).trans (teq hc101).2) ?_
   refine XS.iloadN X0.here hx rfl (hb hby d1_12) rfl ?_
   refine XS.i2c X0.here hx rfl (hb hby d1_13) rfl ?_
   show SS p e below s₁ m 14 #[vI p1, vI ((p1.toUInt32 >>> ((2 : Int32) &&& 31).toUInt32).toInt32), vI (p1 &&& (3 : Int32))] [(.int (((p1.toUInt32 >>> ((2 : Int32) &&& 31).toUInt32).toInt32).toUInt32.toUInt16.toUInt32.toInt32))] _
   exact retN X0 hx (t := .char) Bd.returns (by simp) (hb hby d1_14) hr
  ·show Q_rmPick Z p1 h0 n0 _ s₁.heap _
   rw [e0]
   exact ⟨_, rfl, N0, rfl, own_chr _⟩
 ·skip
  have pre104 : ∀ t, SS p e below s₁ m 17 #[vI p1, vI ((p1.toUInt32 >>> ((2 : Int32) &&& 31).toUInt32).toInt32), vI (p1 &&& (3 : Int32))] [(.int 1), (.int (p1 &&& (3 : Int32)))] t → Steps p.tables e below (s₁.setTop (entryFrame m #[(.int p1)] 3)) t := by
   intro t kt
   refine pre102 _ ?_
   show SS p e below s₁ m 9 #[vI p1, vI ((p1.toUInt32 >>> ((2 : Int32) &&& 31).toUInt32).toInt32), vI (p1 &&& (3 : Int32))] [(.int (p1 &&& (3 : Int32)))] _
   refine XS.ifYes X0.here hx rfl (pc0 := 9) (pc' := 15) rfl (hb hby d1_9) rfl ((if0 _ _).trans (feq hc101).2) (by decide) (by decide) ?_
   refine XS.iloadN X0.here hx rfl (hb hby d1_15) rfl ?_
   refine XS.iconst X0.here hx rfl (hb hby d1_16) ?_
   exact kt
  by_cases hc103 : (p1 &&& (3 : Int32)) = (1 : Int32)
  ·skip
   obtain ⟨fs, hr, hrun, hended, hW, hsame⟩ := X0.leave (v := some (.int (nar .char (((55296 : Int32) + (((p1.toUInt32 >>> ((2 : Int32) &&& 31).toUInt32).toInt32) &&& (1023 : Int32))).toUInt32.toUInt16.toUInt32.toInt32)))) (fun h => by rw [Bd.returns] at h; cases h)
   refine ⟨_, _, pre104 _ ?_, hrun, hended, _, _, rfl, ?_, ⟨_, rfl⟩, hW, hsame.mono (by decide) (by decide)⟩
   ·skip
    show SS p e below s₁ m 17 #[vI p1, vI ((p1.toUInt32 >>> ((2 : Int32) &&& 31).toUInt32).toInt32), vI (p1 &&& (3 : Int32))] [(.int 1), (.int (p1 &&& (3 : Int32)))] _
    refine XS.icmpNo X0.here hx rfl (hb hby d1_17) rfl (teq hc103).2 ?_
    show SS p e below s₁ m 20 #[vI p1, vI ((p1.toUInt32 >>> ((2 : Int32) &&& 31).toUInt32).toInt32), vI (p1 &&& (3 : Int32))] [] _
    refine X0.ldcInt hx hown (mvT hZ (tw hw 5 rfl)) (g := (mkF m 20 #[vI p1, vI ((p1.toUInt32 >>> ((2 : Int32) &&& 31).toUInt32).toInt32), vI (p1 &&& (3 : Int32))] [])) rfl (hb hby d1_20) _ ?_
    refine XS.iloadN X0.here hx rfl (hb hby d1_22) rfl ?_
    refine XS.sipush X0.here hx rfl (hb hby d1_23) ?_
    refine XS.iand X0.here hx rfl (hb hby d1_26) rfl ?_
    refine XS.iadd X0.here hx rfl (hb hby d1_27) rfl ?_
    refine XS.i2c X0.here hx rfl (hb hby d1_28) rfl ?_
    show SS p e below s₁ m 29 #[vI p1, vI ((p1.toUInt32 >>> ((2 : Int32) &&& 31).toUInt32).toInt32), vI (p1 &&& (3 : Int32))] [(.int (((55296 : Int32) + (((p1.toUInt32 >>> ((2 : Int32) &&& 31).toUInt32).toInt32) &&& (1023 : Int32))).toUInt32.toUInt16.toUInt32.toInt32))] _
    exact retN X0 hx (t := .char) Bd.returns (by simp) (hb hby d1_29) hr
   ·show Q_rmPick Z p1 h0 n0 _ s₁.heap _
    rw [e0]
    exact ⟨_, rfl, N0, rfl, own_chr _⟩
  ·skip
   have pre106 : ∀ t, SS p e below s₁ m 32 #[vI p1, vI ((p1.toUInt32 >>> ((2 : Int32) &&& 31).toUInt32).toInt32), vI (p1 &&& (3 : Int32))] [(.int 2), (.int (p1 &&& (3 : Int32)))] t → Steps p.tables e below (s₁.setTop (entryFrame m #[(.int p1)] 3)) t := by
    intro t kt
    refine pre104 _ ?_
    show SS p e below s₁ m 17 #[vI p1, vI ((p1.toUInt32 >>> ((2 : Int32) &&& 31).toUInt32).toInt32), vI (p1 &&& (3 : Int32))] [(.int 1), (.int (p1 &&& (3 : Int32)))] _
    refine XS.icmpYes X0.here hx rfl (pc0 := 17) (pc' := 30) rfl (hb hby d1_17) rfl (feq hc103).2 (by decide) (by decide) ?_
    refine XS.iloadN X0.here hx rfl (hb hby d1_30) rfl ?_
    refine XS.iconst X0.here hx rfl (hb hby d1_31) ?_
    exact kt
   by_cases hc105 : (p1 &&& (3 : Int32)) = (2 : Int32)
   ·skip
    obtain ⟨fs, hr, hrun, hended, hW, hsame⟩ := X0.leave (v := some (.int (nar .char (((56320 : Int32) + (((p1.toUInt32 >>> ((2 : Int32) &&& 31).toUInt32).toInt32) &&& (1023 : Int32))).toUInt32.toUInt16.toUInt32.toInt32)))) (fun h => by rw [Bd.returns] at h; cases h)
    refine ⟨_, _, pre106 _ ?_, hrun, hended, _, _, rfl, ?_, ⟨_, rfl⟩, hW, hsame.mono (by decide) (by decide)⟩
    ·skip
     show SS p e below s₁ m 32 #[vI p1, vI ((p1.toUInt32 >>> ((2 : Int32) &&& 31).toUInt32).toInt32), vI (p1 &&& (3 : Int32))] [(.int 2), (.int (p1 &&& (3 : Int32)))] _
     refine XS.icmpNo X0.here hx rfl (hb hby d1_32) rfl (teq hc105).2 ?_
     show SS p e below s₁ m 35 #[vI p1, vI ((p1.toUInt32 >>> ((2 : Int32) &&& 31).toUInt32).toInt32), vI (p1 &&& (3 : Int32))] [] _
     refine X0.ldcInt hx hown (mvT hZ (tw hw 4 rfl)) (g := (mkF m 35 #[vI p1, vI ((p1.toUInt32 >>> ((2 : Int32) &&& 31).toUInt32).toInt32), vI (p1 &&& (3 : Int32))] [])) rfl (hb hby d1_35) _ ?_
     refine XS.iloadN X0.here hx rfl (hb hby d1_37) rfl ?_
     refine XS.sipush X0.here hx rfl (hb hby d1_38) ?_
     refine XS.iand X0.here hx rfl (hb hby d1_41) rfl ?_
     refine XS.iadd X0.here hx rfl (hb hby d1_42) rfl ?_
     refine XS.i2c X0.here hx rfl (hb hby d1_43) rfl ?_
     show SS p e below s₁ m 44 #[vI p1, vI ((p1.toUInt32 >>> ((2 : Int32) &&& 31).toUInt32).toInt32), vI (p1 &&& (3 : Int32))] [(.int (((56320 : Int32) + (((p1.toUInt32 >>> ((2 : Int32) &&& 31).toUInt32).toInt32) &&& (1023 : Int32))).toUInt32.toUInt16.toUInt32.toInt32))] _
     exact retN X0 hx (t := .char) Bd.returns (by simp) (hb hby d1_44) hr
    ·show Q_rmPick Z p1 h0 n0 _ s₁.heap _
     rw [e0]
     exact ⟨_, rfl, N0, rfl, own_chr _⟩
   ·skip
    obtain ⟨fs, hr, hrun, hended, hW, hsame⟩ := X0.leave (v := some (.int (nar .char ((((p1.toUInt32 >>> ((2 : Int32) &&& 31).toUInt32).toInt32) &&& (1 : Int32)).toUInt32.toUInt16.toUInt32.toInt32)))) (fun h => by rw [Bd.returns] at h; cases h)
    refine ⟨_, _, pre106 _ ?_, hrun, hended, _, _, rfl, ?_, ⟨_, rfl⟩, hW, hsame.mono (by decide) (by decide)⟩
    ·skip
     show SS p e below s₁ m 32 #[vI p1, vI ((p1.toUInt32 >>> ((2 : Int32) &&& 31).toUInt32).toInt32), vI (p1 &&& (3 : Int32))] [(.int 2), (.int (p1 &&& (3 : Int32)))] _
     refine XS.icmpYes X0.here hx rfl (pc0 := 32) (pc' := 45) rfl (hb hby d1_32) rfl (feq hc105).2 (by decide) (by decide) ?_
     refine XS.iloadN X0.here hx rfl (hb hby d1_45) rfl ?_
     refine XS.iconst X0.here hx rfl (hb hby d1_46) ?_
     refine XS.iand X0.here hx rfl (hb hby d1_47) rfl ?_
     refine XS.i2c X0.here hx rfl (hb hby d1_48) rfl ?_
     show SS p e below s₁ m 49 #[vI p1, vI ((p1.toUInt32 >>> ((2 : Int32) &&& 31).toUInt32).toInt32), vI (p1 &&& (3 : Int32))] [(.int ((((p1.toUInt32 >>> ((2 : Int32) &&& 31).toUInt32).toInt32) &&& (1 : Int32)).toUInt32.toUInt16.toUInt32.toInt32))] _
     exact retN X0 hx (t := .char) Bd.returns (by simp) (hb hby d1_49) hr
    ·show Q_rmPick Z p1 h0 n0 _ s₁.heap _
     rw [e0]
     exact ⟨_, rfl, N0, rfl, own_chr _⟩
theorem d36_0 : decode cD36 0 = .ok (.iload_n 0, 1) := by decide +kernel
theorem d36_1 : decode cD36 1 = .ok (.ldc 7, 2) := by decide +kernel
theorem d36_3 : decode cD36 3 = .ok (.if_icmp .lt 13, 3) := by decide +kernel
theorem d36_6 : decode cD36 6 = .ok (.iload_n 0, 1) := by decide +kernel
theorem d36_7 : decode cD36 7 = .ok (.ldc 9, 2) := by decide +kernel
theorem d36_9 : decode cD36 9 = .ok (.if_icmp .gt 7, 3) := by decide +kernel
theorem d36_12 : decode cD36 12 = .ok (.iconst 1, 1) := by decide +kernel
theorem d36_13 : decode cD36 13 = .ok (.goto 4, 3) := by decide +kernel
theorem d36_16 : decode cD36 16 = .ok (.iconst 0, 1) := by decide +kernel
theorem d36_17 : decode cD36 17 = .ok (.istore_n 2, 1) := by decide +kernel
theorem d36_18 : decode cD36 18 = .ok (.iload_n 1, 1) := by decide +kernel
theorem d36_19 : decode cD36 19 = .ok (.ldc 8, 2) := by decide +kernel
theorem d36_21 : decode cD36 21 = .ok (.if_icmp .lt 13, 3) := by decide +kernel
theorem d36_24 : decode cD36 24 = .ok (.iload_n 1, 1) := by decide +kernel
theorem d36_25 : decode cD36 25 = .ok (.ldc 10, 2) := by decide +kernel
theorem d36_27 : decode cD36 27 = .ok (.if_icmp .gt 7, 3) := by decide +kernel
theorem d36_30 : decode cD36 30 = .ok (.iconst 1, 1) := by decide +kernel
theorem d36_31 : decode cD36 31 = .ok (.goto 4, 3) := by decide +kernel
theorem d36_34 : decode cD36 34 = .ok (.iconst 0, 1) := by decide +kernel
theorem d36_35 : decode cD36 35 = .ok (.istore_n 3, 1) := by decide +kernel
theorem d36_36 : decode cD36 36 = .ok (.iload_n 2, 1) := by decide +kernel
theorem d36_37 : decode cD36 37 = .ok (.ifCond .eq 11, 3) := by decide +kernel
theorem d36_40 : decode cD36 40 = .ok (.iload_n 3, 1) := by decide +kernel
theorem d36_41 : decode cD36 41 = .ok (.ifCond .eq 7, 3) := by decide +kernel
theorem d36_44 : decode cD36 44 = .ok (.iconst 1, 1) := by decide +kernel
theorem d36_45 : decode cD36 45 = .ok (.goto 4, 3) := by decide +kernel
theorem d36_48 : decode cD36 48 = .ok (.iconst 0, 1) := by decide +kernel
theorem d36_49 : decode cD36 49 = .ok (.ireturn, 1) := by decide +kernel
theorem pn_36 : plainName "com/example/coterie/coterie/job/JobIsWellFormedKeyPinLaw" = true := by first | (simp [plainName, overriddenIn]; done) | decide +kernel
theorem ef_rmPair (m : MethodId) (y0 : Int32) (y1 : Int32) : entryFrame m #[(.int y0), (.int y1)] 4 = (mkF m 0 #[vI y0, vI y1, .unset, .unset] []) := by first | (simp [entryFrame, mkF, argsToLocals, Value.category]; done) | rfl
def Q_rmPair (Z : State) (p1 : Int32) (p2 : Int32) (h0 : Heap) (n0 : Nat) (v : Option Value) (h : Heap) (L : List Loc) : Prop := v = some (.int (prI p1 p2)) ∧ Fr n0 L ∧ h = h0
set_option maxRecDepth 65536 in
set_option maxHeartbeats 40000000 in
theorem rmPair (l : Launch) (Z : State) (a0 : Array Value) (hw : ∀ d ∈ tables_1, d.before a0 Z = true) (ws : List Jvm.Cond) (p1 : Int32) (p2 : Int32) (h0 : Heap) (n0 : Nat) (O0 : Old Z n0 h0) :
  MetFree l mN36 (head1 (Jvm.Cond.code mN36 method_3_code 4 (some .int) :: ws) (Rm 0 0 0 0)) (fun a U => a = #[(.int p1), (.int p2)] ∧ Z.Warmed39 U.vm ∧ U.heap = h0) (fun _ _ _ _ _ => True) (fun _ U o U' => ∃ v L, o = .returned v ∧ Q_rmPair Z p1 p2 h0 n0 v U'.heap L ∧ FrameEnd U o U' L (Rm 0 0 0 0).cells (Rm 0 0 0 0).slots) := by
 refine MetFree.of_bodySF (plainFor_of_name pn_36) hisR ?_
 intro p e s m args below meth c s₁ Bd hml0 hP hK
 obtain ⟨rfl, hZ, hh⟩ := hP
 have hx := Bd.exec
 have hby := Bd.bytes
 have hml : c.maxLocals = 4 := hml0
 have hown : s.vm.findClass "com/example/coterie/coterie/job/JobIsWellFormedKeyPinLaw" = some m.cls := findClass_of_methodNamed Bd.named
 have hnm := (name_of_methodNamed Bd.named Bd.method).1
 have X0 : Stand p l e (Rm 0 0 0 0) s m #[(.int p1), (.int p2)] below meth c s₁ [] 0 0 := Stand.of_body Bd
 have e0 : s₁.heap = h0 := by rw [← hh, Bd.state]; rfl
 have N0 := Fr.nil n0
 have hn0 : n0 ≤ h0.size := O0.1 ▸ O0.2.1
 have pre0 : ∀ t, SS p e below s₁ m 0 #[vI p1, vI p2, .unset, .unset] [] t → Steps p.tables e below (s₁.setTop (entryFrame m #[(.int p1), (.int p2)] 4)) t := fun t k => castTop (ef_rmPair m p1 p2) k
 have pre102 : ∀ t, SS p e below s₁ m 3 #[vI p1, vI p2, .unset, .unset] [(.int 55296), (.int p1)] t → Steps p.tables e below (s₁.setTop (entryFrame m #[(.int p1), (.int p2)] 4)) t := by
  intro t kt
  refine pre0 _ ?_
  show SS p e below s₁ m 0 #[vI p1, vI p2, .unset, .unset] [] _
  refine XS.iloadN X0.here hx rfl (hb hby d36_0) rfl ?_
  show SS p e below s₁ m 1 #[vI p1, vI p2, .unset, .unset] [(.int p1)] _
  refine X0.ldcInt hx hown (mvT hZ (tw hw 5 rfl)) (g := (mkF m 1 #[vI p1, vI p2, .unset, .unset] [(.int p1)])) rfl (hb hby d36_1) _ ?_
  exact kt
 by_cases hc101 : p1 < (55296 : Int32)
 ·skip
  have pre104 : ∀ t, SS p e below s₁ m 21 #[vI p1, vI p2, vI 0, .unset] [(.int 56320), (.int p2)] t → Steps p.tables e below (s₁.setTop (entryFrame m #[(.int p1), (.int p2)] 4)) t := by
   intro t kt
   refine pre102 _ ?_
   show SS p e below s₁ m 3 #[vI p1, vI p2, .unset, .unset] [(.int 55296), (.int p1)] _
   refine XS.icmpYes X0.here hx rfl (pc0 := 3) (pc' := 16) rfl (hb hby d36_3) rfl (tlt hc101).1 (by decide) (by decide) ?_
   refine XS.iconst X0.here hx rfl (hb hby d36_16) ?_
   refine XS.istoreN X0.here hx rfl (hb hby d36_17) rfl (l' := #[vI p1, vI p2, vI 0, .unset]) rfl ?_
   refine XS.iloadN X0.here hx rfl (hb hby d36_18) rfl ?_
   show SS p e below s₁ m 19 #[vI p1, vI p2, vI 0, .unset] [(.int p2)] _
   refine X0.ldcInt hx hown (mvT hZ (tw hw 4 rfl)) (g := (mkF m 19 #[vI p1, vI p2, vI 0, .unset] [(.int p2)])) rfl (hb hby d36_19) _ ?_
   exact kt
  by_cases hc103 : p2 < (56320 : Int32)
  ·skip
   obtain ⟨fs, hr, hrun, hended, hW, hsame⟩ := X0.leave (v := some (.int 0)) (fun h => by rw [Bd.returns] at h; cases h)
   refine ⟨_, _, pre104 _ ?_, hrun, hended, _, _, rfl, ?_, ⟨_, rfl⟩, hW, hsame.mono (by decide) (by decide)⟩
   ·skip
    show SS p e below s₁ m 21 #[vI p1, vI p2, vI 0, .unset] [(.int 56320), (.int p2)] _
    refine XS.icmpYes X0.here hx rfl (pc0 := 21) (pc' := 34) rfl (hb hby d36_21) rfl (tlt hc103).1 (by decide) (by decide) ?_
    refine XS.iconst X0.here hx rfl (hb hby d36_34) ?_
    refine XS.istoreN X0.here hx rfl (hb hby d36_35) rfl (l' := #[vI p1, vI p2, vI 0, vI 0]) rfl ?_
    refine XS.iloadN X0.here hx rfl (hb hby d36_36) rfl ?_
    refine XS.ifYes X0.here hx rfl (pc0 := 37) (pc' := 48) rfl (hb hby d36_37) rfl ((if0 _ _).trans (teq (by decide : (0 : Int32) = (0 : Int32))).1) (by decide) (by decide) ?_
    refine XS.iconst X0.here hx rfl (hb hby d36_48) ?_
    show SS p e below s₁ m 49 #[vI p1, vI p2, vI 0, vI 0] [(.int 0)] _
    exact retI X0 hx Bd.returns (hb hby d36_49) hr
   ·show Q_rmPair Z p1 p2 h0 n0 _ s₁.heap _
    rw [e0]
    exact ⟨by simp [prI, own_hi, own_loS, hc101, hc103], N0, rfl⟩
  ·skip
   have pre106 : ∀ t, SS p e below s₁ m 27 #[vI p1, vI p2, vI 0, .unset] [(.int 57343), (.int p2)] t → Steps p.tables e below (s₁.setTop (entryFrame m #[(.int p1), (.int p2)] 4)) t := by
    intro t kt
    refine pre104 _ ?_
    show SS p e below s₁ m 21 #[vI p1, vI p2, vI 0, .unset] [(.int 56320), (.int p2)] _
    refine XS.icmpNo X0.here hx rfl (hb hby d36_21) rfl (flt hc103).1 ?_
    refine XS.iloadN X0.here hx rfl (hb hby d36_24) rfl ?_
    show SS p e below s₁ m 25 #[vI p1, vI p2, vI 0, .unset] [(.int p2)] _
    refine X0.ldcInt hx hown (mvT hZ (tw hw 155 rfl)) (g := (mkF m 25 #[vI p1, vI p2, vI 0, .unset] [(.int p2)])) rfl (hb hby d36_25) _ ?_
    exact kt
   by_cases hc105 : (57343 : Int32) < p2
   ·skip
    obtain ⟨fs, hr, hrun, hended, hW, hsame⟩ := X0.leave (v := some (.int 0)) (fun h => by rw [Bd.returns] at h; cases h)
    refine ⟨_, _, pre106 _ ?_, hrun, hended, _, _, rfl, ?_, ⟨_, rfl⟩, hW, hsame.mono (by decide) (by decide)⟩
    ·skip
     show SS p e below s₁ m 27 #[vI p1, vI p2, vI 0, .unset] [(.int 57343), (.int p2)] _
     refine XS.icmpYes X0.here hx rfl (pc0 := 27) (pc' := 34) rfl (hb hby d36_27) rfl (tlt hc105).2.2.1 (by decide) (by decide) ?_
     refine XS.iconst X0.here hx rfl (hb hby d36_34) ?_
     refine XS.istoreN X0.here hx rfl (hb hby d36_35) rfl (l' := #[vI p1, vI p2, vI 0, vI 0]) rfl ?_
     refine XS.iloadN X0.here hx rfl (hb hby d36_36) rfl ?_
     refine XS.ifYes X0.here hx rfl (pc0 := 37) (pc' := 48) rfl (hb hby d36_37) rfl ((if0 _ _).trans (teq (by decide : (0 : Int32) = (0 : Int32))).1) (by decide) (by decide) ?_
     refine XS.iconst X0.here hx rfl (hb hby d36_48) ?_
     show SS p e below s₁ m 49 #[vI p1, vI p2, vI 0, vI 0] [(.int 0)] _
     exact retI X0 hx Bd.returns (hb hby d36_49) hr
    ·show Q_rmPair Z p1 p2 h0 n0 _ s₁.heap _
     rw [e0]
     exact ⟨by simp [prI, own_hi, own_loS, hc101, hc103, hc105], N0, rfl⟩
   ·skip
    obtain ⟨fs, hr, hrun, hended, hW, hsame⟩ := X0.leave (v := some (.int 0)) (fun h => by rw [Bd.returns] at h; cases h)
    refine ⟨_, _, pre106 _ ?_, hrun, hended, _, _, rfl, ?_, ⟨_, rfl⟩, hW, hsame.mono (by decide) (by decide)⟩
    ·skip
     show SS p e below s₁ m 27 #[vI p1, vI p2, vI 0, .unset] [(.int 57343), (.int p2)] _
     refine XS.icmpNo X0.here hx rfl (hb hby d36_27) rfl (flt hc105).2.2.1 ?_
     refine XS.iconst X0.here hx rfl (hb hby d36_30) ?_
     refine XS.goto X0.here hx rfl (pc0 := 31) (pc' := 35) rfl (hb hby d36_31) (by decide) (by decide) ?_
     refine XS.istoreN X0.here hx rfl (hb hby d36_35) rfl (l' := #[vI p1, vI p2, vI 0, vI 1]) rfl ?_
     refine XS.iloadN X0.here hx rfl (hb hby d36_36) rfl ?_
     refine XS.ifYes X0.here hx rfl (pc0 := 37) (pc' := 48) rfl (hb hby d36_37) rfl ((if0 _ _).trans (teq (by decide : (0 : Int32) = (0 : Int32))).1) (by decide) (by decide) ?_
     refine XS.iconst X0.here hx rfl (hb hby d36_48) ?_
     show SS p e below s₁ m 49 #[vI p1, vI p2, vI 0, vI 1] [(.int 0)] _
     exact retI X0 hx Bd.returns (hb hby d36_49) hr
    ·show Q_rmPair Z p1 p2 h0 n0 _ s₁.heap _
     rw [e0]
     exact ⟨by simp [prI, own_hi, own_loS, hc101, hc103, hc105], N0, rfl⟩
 ·skip
  have pre108 : ∀ t, SS p e below s₁ m 9 #[vI p1, vI p2, .unset, .unset] [(.int 56319), (.int p1)] t → Steps p.tables e below (s₁.setTop (entryFrame m #[(.int p1), (.int p2)] 4)) t := by
   intro t kt
   refine pre102 _ ?_
   show SS p e below s₁ m 3 #[vI p1, vI p2, .unset, .unset] [(.int 55296), (.int p1)] _
   refine XS.icmpNo X0.here hx rfl (hb hby d36_3) rfl (flt hc101).1 ?_
   refine XS.iloadN X0.here hx rfl (hb hby d36_6) rfl ?_
   show SS p e below s₁ m 7 #[vI p1, vI p2, .unset, .unset] [(.int p1)] _
   refine X0.ldcInt hx hown (mvT hZ (tw hw 156 rfl)) (g := (mkF m 7 #[vI p1, vI p2, .unset, .unset] [(.int p1)])) rfl (hb hby d36_7) _ ?_
   exact kt
  by_cases hc107 : (56319 : Int32) < p1
  ·skip
   have pre110 : ∀ t, SS p e below s₁ m 21 #[vI p1, vI p2, vI 0, .unset] [(.int 56320), (.int p2)] t → Steps p.tables e below (s₁.setTop (entryFrame m #[(.int p1), (.int p2)] 4)) t := by
    intro t kt
    refine pre108 _ ?_
    show SS p e below s₁ m 9 #[vI p1, vI p2, .unset, .unset] [(.int 56319), (.int p1)] _
    refine XS.icmpYes X0.here hx rfl (pc0 := 9) (pc' := 16) rfl (hb hby d36_9) rfl (tlt hc107).2.2.1 (by decide) (by decide) ?_
    refine XS.iconst X0.here hx rfl (hb hby d36_16) ?_
    refine XS.istoreN X0.here hx rfl (hb hby d36_17) rfl (l' := #[vI p1, vI p2, vI 0, .unset]) rfl ?_
    refine XS.iloadN X0.here hx rfl (hb hby d36_18) rfl ?_
    show SS p e below s₁ m 19 #[vI p1, vI p2, vI 0, .unset] [(.int p2)] _
    refine X0.ldcInt hx hown (mvT hZ (tw hw 4 rfl)) (g := (mkF m 19 #[vI p1, vI p2, vI 0, .unset] [(.int p2)])) rfl (hb hby d36_19) _ ?_
    exact kt
   by_cases hc109 : p2 < (56320 : Int32)
   ·skip
    obtain ⟨fs, hr, hrun, hended, hW, hsame⟩ := X0.leave (v := some (.int 0)) (fun h => by rw [Bd.returns] at h; cases h)
    refine ⟨_, _, pre110 _ ?_, hrun, hended, _, _, rfl, ?_, ⟨_, rfl⟩, hW, hsame.mono (by decide) (by decide)⟩
    ·skip
     show SS p e below s₁ m 21 #[vI p1, vI p2, vI 0, .unset] [(.int 56320), (.int p2)] _
     refine XS.icmpYes X0.here hx rfl (pc0 := 21) (pc' := 34) rfl (hb hby d36_21) rfl (tlt hc109).1 (by decide) (by decide) ?_
     refine XS.iconst X0.here hx rfl (hb hby d36_34) ?_
     refine XS.istoreN X0.here hx rfl (hb hby d36_35) rfl (l' := #[vI p1, vI p2, vI 0, vI 0]) rfl ?_
     refine XS.iloadN X0.here hx rfl (hb hby d36_36) rfl ?_
     refine XS.ifYes X0.here hx rfl (pc0 := 37) (pc' := 48) rfl (hb hby d36_37) rfl ((if0 _ _).trans (teq (by decide : (0 : Int32) = (0 : Int32))).1) (by decide) (by decide) ?_
     refine XS.iconst X0.here hx rfl (hb hby d36_48) ?_
     show SS p e below s₁ m 49 #[vI p1, vI p2, vI 0, vI 0] [(.int 0)] _
     exact retI X0 hx Bd.returns (hb hby d36_49) hr
    ·show Q_rmPair Z p1 p2 h0 n0 _ s₁.heap _
     rw [e0]
     exact ⟨by simp [prI, own_hi, own_loS, hc101, hc107, hc109], N0, rfl⟩
   ·skip
    have pre112 : ∀ t, SS p e below s₁ m 27 #[vI p1, vI p2, vI 0, .unset] [(.int 57343), (.int p2)] t → Steps p.tables e below (s₁.setTop (entryFrame m #[(.int p1), (.int p2)] 4)) t := by
     intro t kt
     refine pre110 _ ?_
     show SS p e below s₁ m 21 #[vI p1, vI p2, vI 0, .unset] [(.int 56320), (.int p2)] _
     refine XS.icmpNo X0.here hx rfl (hb hby d36_21) rfl (flt hc109).1 ?_
     refine XS.iloadN X0.here hx rfl (hb hby d36_24) rfl ?_
     show SS p e below s₁ m 25 #[vI p1, vI p2, vI 0, .unset] [(.int p2)] _
     refine X0.ldcInt hx hown (mvT hZ (tw hw 155 rfl)) (g := (mkF m 25 #[vI p1, vI p2, vI 0, .unset] [(.int p2)])) rfl (hb hby d36_25) _ ?_
     exact kt
    by_cases hc111 : (57343 : Int32) < p2
    ·skip
     obtain ⟨fs, hr, hrun, hended, hW, hsame⟩ := X0.leave (v := some (.int 0)) (fun h => by rw [Bd.returns] at h; cases h)
     refine ⟨_, _, pre112 _ ?_, hrun, hended, _, _, rfl, ?_, ⟨_, rfl⟩, hW, hsame.mono (by decide) (by decide)⟩
     ·skip
      show SS p e below s₁ m 27 #[vI p1, vI p2, vI 0, .unset] [(.int 57343), (.int p2)] _
      refine XS.icmpYes X0.here hx rfl (pc0 := 27) (pc' := 34) rfl (hb hby d36_27) rfl (tlt hc111).2.2.1 (by decide) (by decide) ?_
      refine XS.iconst X0.here hx rfl (hb hby d36_34) ?_
      refine XS.istoreN X0.here hx rfl (hb hby d36_35) rfl (l' := #[vI p1, vI p2, vI 0, vI 0]) rfl ?_
      refine XS.iloadN X0.here hx rfl (hb hby d36_36) rfl ?_
      refine XS.ifYes X0.here hx rfl (pc0 := 37) (pc' := 48) rfl (hb hby d36_37) rfl ((if0 _ _).trans (teq (by decide : (0 : Int32) = (0 : Int32))).1) (by decide) (by decide) ?_
      refine XS.iconst X0.here hx rfl (hb hby d36_48) ?_
      show SS p e below s₁ m 49 #[vI p1, vI p2, vI 0, vI 0] [(.int 0)] _
      exact retI X0 hx Bd.returns (hb hby d36_49) hr
     ·show Q_rmPair Z p1 p2 h0 n0 _ s₁.heap _
      rw [e0]
      exact ⟨by simp [prI, own_hi, own_loS, hc101, hc107, hc109, hc111], N0, rfl⟩
    ·skip
     obtain ⟨fs, hr, hrun, hended, hW, hsame⟩ := X0.leave (v := some (.int 0)) (fun h => by rw [Bd.returns] at h; cases h)
     refine ⟨_, _, pre112 _ ?_, hrun, hended, _, _, rfl, ?_, ⟨_, rfl⟩, hW, hsame.mono (by decide) (by decide)⟩
     ·skip
      show SS p e below s₁ m 27 #[vI p1, vI p2, vI 0, .unset] [(.int 57343), (.int p2)] _
      refine XS.icmpNo X0.here hx rfl (hb hby d36_27) rfl (flt hc111).2.2.1 ?_
      refine XS.iconst X0.here hx rfl (hb hby d36_30) ?_
      refine XS.goto X0.here hx rfl (pc0 := 31) (pc' := 35) rfl (hb hby d36_31) (by decide) (by decide) ?_
      refine XS.istoreN X0.here hx rfl (hb hby d36_35) rfl (l' := #[vI p1, vI p2, vI 0, vI 1]) rfl ?_
      refine XS.iloadN X0.here hx rfl (hb hby d36_36) rfl ?_
      refine XS.ifYes X0.here hx rfl (pc0 := 37) (pc' := 48) rfl (hb hby d36_37) rfl ((if0 _ _).trans (teq (by decide : (0 : Int32) = (0 : Int32))).1) (by decide) (by decide) ?_
      refine XS.iconst X0.here hx rfl (hb hby d36_48) ?_
      show SS p e below s₁ m 49 #[vI p1, vI p2, vI 0, vI 1] [(.int 0)] _
      exact retI X0 hx Bd.returns (hb hby d36_49) hr
     ·show Q_rmPair Z p1 p2 h0 n0 _ s₁.heap _
      rw [e0]
      exact ⟨by simp [prI, own_hi, own_loS, hc101, hc107, hc109, hc111], N0, rfl⟩
  ·skip
   have pre114 : ∀ t, SS p e below s₁ m 21 #[vI p1, vI p2, vI 1, .unset] [(.int 56320), (.int p2)] t → Steps p.tables e below (s₁.setTop (entryFrame m #[(.int p1), (.int p2)] 4)) t := by
    intro t kt
    refine pre108 _ ?_
    show SS p e below s₁ m 9 #[vI p1, vI p2, .unset, .unset] [(.int 56319), (.int p1)] _
    refine XS.icmpNo X0.here hx rfl (hb hby d36_9) rfl (flt hc107).2.2.1 ?_
    refine XS.iconst X0.here hx rfl (hb hby d36_12) ?_
    refine XS.goto X0.here hx rfl (pc0 := 13) (pc' := 17) rfl (hb hby d36_13) (by decide) (by decide) ?_
    refine XS.istoreN X0.here hx rfl (hb hby d36_17) rfl (l' := #[vI p1, vI p2, vI 1, .unset]) rfl ?_
    refine XS.iloadN X0.here hx rfl (hb hby d36_18) rfl ?_
    show SS p e below s₁ m 19 #[vI p1, vI p2, vI 1, .unset] [(.int p2)] _
    refine X0.ldcInt hx hown (mvT hZ (tw hw 4 rfl)) (g := (mkF m 19 #[vI p1, vI p2, vI 1, .unset] [(.int p2)])) rfl (hb hby d36_19) _ ?_
    exact kt
   by_cases hc113 : p2 < (56320 : Int32)
   ·skip
    obtain ⟨fs, hr, hrun, hended, hW, hsame⟩ := X0.leave (v := some (.int 0)) (fun h => by rw [Bd.returns] at h; cases h)
    refine ⟨_, _, pre114 _ ?_, hrun, hended, _, _, rfl, ?_, ⟨_, rfl⟩, hW, hsame.mono (by decide) (by decide)⟩
    ·skip
     show SS p e below s₁ m 21 #[vI p1, vI p2, vI 1, .unset] [(.int 56320), (.int p2)] _
     refine XS.icmpYes X0.here hx rfl (pc0 := 21) (pc' := 34) rfl (hb hby d36_21) rfl (tlt hc113).1 (by decide) (by decide) ?_
     refine XS.iconst X0.here hx rfl (hb hby d36_34) ?_
     refine XS.istoreN X0.here hx rfl (hb hby d36_35) rfl (l' := #[vI p1, vI p2, vI 1, vI 0]) rfl ?_
     refine XS.iloadN X0.here hx rfl (hb hby d36_36) rfl ?_
     refine XS.ifNo X0.here hx rfl (hb hby d36_37) rfl ((if0 _ _).trans (feq (by decide : ¬ ((1 : Int32) = (0 : Int32)))).1) ?_
     refine XS.iloadN X0.here hx rfl (hb hby d36_40) rfl ?_
     refine XS.ifYes X0.here hx rfl (pc0 := 41) (pc' := 48) rfl (hb hby d36_41) rfl ((if0 _ _).trans (teq (by decide : (0 : Int32) = (0 : Int32))).1) (by decide) (by decide) ?_
     refine XS.iconst X0.here hx rfl (hb hby d36_48) ?_
     show SS p e below s₁ m 49 #[vI p1, vI p2, vI 1, vI 0] [(.int 0)] _
     exact retI X0 hx Bd.returns (hb hby d36_49) hr
    ·show Q_rmPair Z p1 p2 h0 n0 _ s₁.heap _
     rw [e0]
     exact ⟨by simp [prI, own_hi, own_loS, hc101, hc107, hc113], N0, rfl⟩
   ·skip
    have pre116 : ∀ t, SS p e below s₁ m 27 #[vI p1, vI p2, vI 1, .unset] [(.int 57343), (.int p2)] t → Steps p.tables e below (s₁.setTop (entryFrame m #[(.int p1), (.int p2)] 4)) t := by
     intro t kt
     refine pre114 _ ?_
     show SS p e below s₁ m 21 #[vI p1, vI p2, vI 1, .unset] [(.int 56320), (.int p2)] _
     refine XS.icmpNo X0.here hx rfl (hb hby d36_21) rfl (flt hc113).1 ?_
     refine XS.iloadN X0.here hx rfl (hb hby d36_24) rfl ?_
     show SS p e below s₁ m 25 #[vI p1, vI p2, vI 1, .unset] [(.int p2)] _
     refine X0.ldcInt hx hown (mvT hZ (tw hw 155 rfl)) (g := (mkF m 25 #[vI p1, vI p2, vI 1, .unset] [(.int p2)])) rfl (hb hby d36_25) _ ?_
     exact kt
    by_cases hc115 : (57343 : Int32) < p2
    ·skip
     obtain ⟨fs, hr, hrun, hended, hW, hsame⟩ := X0.leave (v := some (.int 0)) (fun h => by rw [Bd.returns] at h; cases h)
     refine ⟨_, _, pre116 _ ?_, hrun, hended, _, _, rfl, ?_, ⟨_, rfl⟩, hW, hsame.mono (by decide) (by decide)⟩
     ·skip
      show SS p e below s₁ m 27 #[vI p1, vI p2, vI 1, .unset] [(.int 57343), (.int p2)] _
      refine XS.icmpYes X0.here hx rfl (pc0 := 27) (pc' := 34) rfl (hb hby d36_27) rfl (tlt hc115).2.2.1 (by decide) (by decide) ?_
      refine XS.iconst X0.here hx rfl (hb hby d36_34) ?_
      refine XS.istoreN X0.here hx rfl (hb hby d36_35) rfl (l' := #[vI p1, vI p2, vI 1, vI 0]) rfl ?_
      refine XS.iloadN X0.here hx rfl (hb hby d36_36) rfl ?_
      refine XS.ifNo X0.here hx rfl (hb hby d36_37) rfl ((if0 _ _).trans (feq (by decide : ¬ ((1 : Int32) = (0 : Int32)))).1) ?_
      refine XS.iloadN X0.here hx rfl (hb hby d36_40) rfl ?_
      refine XS.ifYes X0.here hx rfl (pc0 := 41) (pc' := 48) rfl (hb hby d36_41) rfl ((if0 _ _).trans (teq (by decide : (0 : Int32) = (0 : Int32))).1) (by decide) (by decide) ?_
      refine XS.iconst X0.here hx rfl (hb hby d36_48) ?_
      show SS p e below s₁ m 49 #[vI p1, vI p2, vI 1, vI 0] [(.int 0)] _
      exact retI X0 hx Bd.returns (hb hby d36_49) hr
     ·show Q_rmPair Z p1 p2 h0 n0 _ s₁.heap _
      rw [e0]
      exact ⟨by simp [prI, own_hi, own_loS, hc101, hc107, hc113, hc115], N0, rfl⟩
    ·skip
     obtain ⟨fs, hr, hrun, hended, hW, hsame⟩ := X0.leave (v := some (.int 1)) (fun h => by rw [Bd.returns] at h; cases h)
     refine ⟨_, _, pre116 _ ?_, hrun, hended, _, _, rfl, ?_, ⟨_, rfl⟩, hW, hsame.mono (by decide) (by decide)⟩
     ·skip
      show SS p e below s₁ m 27 #[vI p1, vI p2, vI 1, .unset] [(.int 57343), (.int p2)] _
      refine XS.icmpNo X0.here hx rfl (hb hby d36_27) rfl (flt hc115).2.2.1 ?_
      refine XS.iconst X0.here hx rfl (hb hby d36_30) ?_
      refine XS.goto X0.here hx rfl (pc0 := 31) (pc' := 35) rfl (hb hby d36_31) (by decide) (by decide) ?_
      refine XS.istoreN X0.here hx rfl (hb hby d36_35) rfl (l' := #[vI p1, vI p2, vI 1, vI 1]) rfl ?_
      refine XS.iloadN X0.here hx rfl (hb hby d36_36) rfl ?_
      refine XS.ifNo X0.here hx rfl (hb hby d36_37) rfl ((if0 _ _).trans (feq (by decide : ¬ ((1 : Int32) = (0 : Int32)))).1) ?_
      refine XS.iloadN X0.here hx rfl (hb hby d36_40) rfl ?_
      refine XS.ifNo X0.here hx rfl (hb hby d36_41) rfl ((if0 _ _).trans (feq (by decide : ¬ ((1 : Int32) = (0 : Int32)))).1) ?_
      refine XS.iconst X0.here hx rfl (hb hby d36_44) ?_
      refine XS.goto X0.here hx rfl (pc0 := 45) (pc' := 49) rfl (hb hby d36_45) (by decide) (by decide) ?_
      show SS p e below s₁ m 49 #[vI p1, vI p2, vI 1, vI 1] [(.int 1)] _
      exact retI X0 hx Bd.returns (hb hby d36_49) hr
     ·show Q_rmPair Z p1 p2 h0 n0 _ s₁.heap _
      rw [e0]
      exact ⟨by simp [prI, own_hi, own_loS, hc101, hc107, hc113, hc115], N0, rfl⟩
theorem d2_0 : decode cD37 0 = .ok (.iload_n 0, 1) := by decide +kernel
theorem d2_1 : decode cD37 1 = .ok (.ifCond .ne 14, 3) := by decide +kernel
theorem d2_15 : decode cD37 15 = .ok (.iload_n 0, 1) := by decide +kernel
theorem d2_16 : decode cD37 16 = .ok (.iconst 1, 1) := by decide +kernel
theorem d2_17 : decode cD37 17 = .ok (.if_icmp .ne 18, 3) := by decide +kernel
theorem d2_20 : decode cD37 20 = .ok (.new 11, 3) := by decide +kernel
theorem d2_23 : decode cD37 23 = .ok (.dup, 1) := by decide +kernel
theorem d2_24 : decode cD37 24 = .ok (.iconst 1, 1) := by decide +kernel
theorem d2_25 : decode cD37 25 = .ok (.newarray .char, 2) := by decide +kernel
theorem d2_27 : decode cD37 27 = .ok (.dup, 1) := by decide +kernel
theorem d2_28 : decode cD37 28 = .ok (.iconst 0, 1) := by decide +kernel
theorem d2_29 : decode cD37 29 = .ok (.iload_n 1, 1) := by decide +kernel
theorem d2_30 : decode cD37 30 = .ok (.castore, 1) := by decide +kernel
theorem d2_31 : decode cD37 31 = .ok (.invokespecial 13, 3) := by decide +kernel
theorem d2_34 : decode cD37 34 = .ok (.areturn, 1) := by decide +kernel
theorem pn_2 : plainName "com/example/coterie/coterie/job/JobIsWellFormedKeyPinLaw" = true := by first | (simp [plainName, overriddenIn]; done) | decide +kernel
theorem pd_2 : parseMethodDescriptor "([C)V" = some ⟨[(.array .char)], none⟩ := by decide +kernel
theorem ef_rmShort1L (m : MethodId) (y0 : Int32) (y1 : Int32) (y2 : Int32) (y3 : Int32) (y4 : Int32) : entryFrame m #[(.int y0), (.int y1), (.int y2), (.int y3), (.int y4)] 5 = (mkF m 0 #[vI y0, vI y1, vI y2, vI y3, vI y4] []) := by first | (simp [entryFrame, mkF, argsToLocals, Value.category]; done) | rfl
def Q_rmShort1L (Z : State) (p1 : Int32) (p2 : Int32) (p3 : Int32) (p4 : Int32) (p5 : Int32) (cs : Int32) (h0 : Heap) (n0 : Nat) (v : Option Value) (h : Heap) (L : List Loc) : Prop := ∃ (x t : Addr) (kb : ClassId), v = some (.ref x) ∧ Fr n0 L ∧ Keep h0 h [] ∧ h0.size ≤ x ∧ Exa Z h x "java/lang/String" ∧ Fld Z h x "java/lang/String" "value" "[B" (.ref t) ∧ Fld Z h x "java/lang/String" "coder" "B" (.int 0) ∧ @Ne Nat t x ∧ Arv Z h t kb .byte (Int32.ofNat (([p2] : List Int32).map (fun c => c.toInt8.toInt32)).length) ((([p2] : List Int32).map (fun c => c.toInt8.toInt32)).map Value.int) (.int 0)
set_option maxRecDepth 65536 in
set_option maxHeartbeats 40000000 in
theorem rmShort1L (l : Launch) (Z : State) (a0 : Array Value) (hw : ∀ d ∈ tables_1, d.before a0 Z = true) (ws : List Jvm.Cond) (p1 : Int32) (p2 : Int32) (p3 : Int32) (p4 : Int32) (p5 : Int32) (cs : Int32) (h0 : Heap) (n0 : Nat) (O0 : Old Z n0 h0) (S_CS : SCS Z cs) (c_CS : ¬ (cs = (0 : Int32))) (hm : p1 = (1 : Int32)) (r2 : ¬ p2 < 0 ∧ ¬ (65535 : Int32) < p2) (hL : ∀ c ∈ ([p2] : List Int32), ¬ c < 0 ∧ ¬ (255 : Int32) < c) :
  MetFree l mN37 (head1 (Jvm.Cond.code mN37 method_4_code 5 (some (.object "java/lang/String")) :: ws) (Rm 6 4 800 190)) (fun a U => a = #[(.int p1), (.int p2), (.int p3), (.int p4), (.int p5)] ∧ Z.Warmed39 U.vm ∧ U.heap = h0) (fun _ _ _ _ _ => True) (fun _ U o U' => ∃ v L, o = .returned v ∧ Q_rmShort1L Z p1 p2 p3 p4 p5 cs h0 n0 v U'.heap L ∧ FrameEnd U o U' L (Rm 6 4 800 190).cells (Rm 6 4 800 190).slots) := by
 refine MetFree.of_bodySF (plainFor_of_name pn_2) hisR ?_
 intro p e s m args below meth c s₁ Bd hml0 hP hK
 obtain ⟨rfl, hZ, hh⟩ := hP
 have hx := Bd.exec
 have hby := Bd.bytes
 have hml : c.maxLocals = 5 := hml0
 have hown : s.vm.findClass "com/example/coterie/coterie/job/JobIsWellFormedKeyPinLaw" = some m.cls := findClass_of_methodNamed Bd.named
 have hnm := (name_of_methodNamed Bd.named Bd.method).1
 have X0 : Stand p l e (Rm 6 4 800 190) s m #[(.int p1), (.int p2), (.int p3), (.int p4), (.int p5)] below meth c s₁ [] 0 0 := Stand.of_body Bd
 have e0 : s₁.heap = h0 := by rw [← hh, Bd.state]; rfl
 have N0 := Fr.nil n0
 have hn0 : n0 ≤ h0.size := O0.1 ▸ O0.2.1
 have pre0 : ∀ t, SS p e below s₁ m 0 #[vI p1, vI p2, vI p3, vI p4, vI p5] [] t → Steps p.tables e below (s₁.setTop (entryFrame m #[(.int p1), (.int p2), (.int p3), (.int p4), (.int p5)] 5)) t := fun t k => castTop (ef_rmShort1L m p1 p2 p3 p4 p5) k
 have hws : ∀ d ∈ StrChars.Road.words, d.before a0 Z = true := fun d hd => hw d ((by decide +kernel : ∀ d ∈ StrChars.Road.words, d ∈ tables_1) d hd)
 obtain ⟨T101, h101, X101, e101, E101, A101, D101, -, st101⟩ := newO X0 hx hZ hown (tw hw 9 rfl) (tw hw 10 rfl) (tw hw 11 rfl) e0 (g := (mkF m 20 #[vI p1, vI p2, vI p3, vI p4, vI p5] [])) rfl (hb hby d2_20) (by decide) (by decide)
 obtain ⟨b101, g101⟩ : ∃ z, z = h0.size := ⟨_, rfl⟩
 rw [← g101] at A101 D101 st101
 have lt101 : @LT.lt Nat _ b101 h101.size := A101.lt
 have K101 : Keep h0 h101 [] := (Keep.refl _ _).ext E101
 have sz1_K101 := K101.1
 have F101_value : Fld Z h101 b101 "java/lang/String" "value" "[B" .null := D101 (Or.inr (tw hw 25 rfl)) (ty := (.array .byte)) (by decide)
 have F101_coder : Fld Z h101 b101 "java/lang/String" "coder" "B" (.int 0) := D101 (Or.inr (tw hw 26 rfl)) (ty := .byte) (by decide)
 obtain ⟨T102, h102, k102, X102, e102, E102, A102, st102⟩ := newP X101 hx hZ (tw hw 12 rfl) e101 (g := (mkF m 25 #[vI p1, vI p2, vI p3, vI p4, vI p5] [(.int 1), (.ref b101), (.ref b101)])) rfl (hb hby d2_25) rfl (by decide) (cap := 1) (by decide) (by decide) (by decide) (by decide)
 obtain ⟨b102, g102⟩ : ∃ z, z = h101.size := ⟨_, rfl⟩
 rw [← g102] at A102 st102
 have V102 : Arv Z h102 b102 k102 .char (1 : Int32) [(.int 0)] (.int 0) := (Arv.new A102 (by decide)).pad (pad_rep [] (.int 0) 1)
 have lt102 : @LT.lt Nat _ b102 h102.size := V102.lt
 have K102 : Keep h101 h102 [] := (Keep.refl _ _).ext E102
 have sz2_K102 := K102.1
 obtain ⟨cl103, Ar103, q103, S103, Nn103, H103, G103⟩ := id V102
 obtain ⟨T104, h104, X104, e104, W104, st104⟩ := stC X102 hx hZ e102 Ar103 (j := (0 : Int32)) (inb_of S103 ⟨by decide, by decide⟩) (g := (mkF m 30 #[vI p1, vI p2, vI p3, vI p4, vI p5] [(.int p2), (.int 0), (.ref b102), (.ref b102), (.ref b101), (.ref b101)])) rfl rfl (hb hby d2_30)
 rw [own_nc r2] at W104
 have V104 : Arv Z h104 b102 k102 .char (1 : Int32) [(.int p2)] (.int 0) := Arv.set Ar103 q103 S103 Nn103 H103 G103 (own_fitc r2) W104 0 rfl (Nat.le_of_ble_eq_true rfl)
 have K104 := Keep.of_wr W104
 have N104 := Fr.snoc X104 N0 (by omega : @LE.le Nat _ n0 b102)
 have sz3_K104 := K104.1
 have C106 := A101.keep K102
 have C107 := C106.keep K104
 have C108 := F101_value.keep K102 nin0
 have C109 := C108.keep K104 (ninS (by omega : @Ne Nat b101 b102) (nin0))
 have C110 := F101_coder.keep K102 nin0
 have C111 := C110.keep K104 (ninS (by omega : @Ne Nat b101 b102) (nin0))
 have O112 : Old Z n0 h101 := O0.keep K101 all0
 have O113 : Old Z n0 h102 := O112.keep K102 all0
 have O114 : Old Z n0 h104 := O113.keep K104 (allS (by omega) (all0))
 obtain ⟨_, _, ⟨T105, L105, k105, n105⟩, -, X105, ⟨Lc105, hQ105, l105, y105, z105⟩, st105⟩ := X104.specialBack hx (y := mN9) rfl hown (mvT hZ (tw hw 13 rfl)) (mvT hZ (tw hw 14 rfl)) (mvT hZ (tw hw 15 rfl)) (by decide) (StrChars.Road.backV (W := 1) hZ hws (kI := 4) (tw hw 10 rfl) (cs := ([p2] : List Int32)) (bs := ([p2] : List Int32).map (fun c => c.toInt8.toInt32)) (n := 1) (by omega : @LE.le Nat _ n0 b101) (by omega) C107 C109 C111 V104 (Sta.ext O114.2 S_CS) c_CS rfl rfl (by decide) (by decide) hL rfl (by decide) (by decide)) (g := (mkF m 31 #[vI p1, vI p2, vI p3, vI p4, vI p5] [(.ref b102), (.ref b101), (.ref b101)])) rfl (by rw [hml]; rfl) (Steps.refl _) (a := b101) (argsL := [(.ref b102)]) (rest := [(.ref b101)]) (lenOf pd_2 rfl) rfl (by show 2 * 0 + _ ≤ _; exact Nat.le_of_eq rfl) (hb hby d2_31) (fun _ _ => ⟨rfl, e104, (by decide : 2 + 1 ≤ _), (by decide : 5 + 1 ≤ _)⟩)
 dsimp only [Pt.U, Pt.locs, Pt.cells, Pt.slots] at X105 l105 y105 z105 st105 hQ105
 subst l105 y105 z105
 obtain ⟨rfl, N105q, K105, E105, C105, t105, kb105, ge105, gh105, tx105, Vf105, Av105⟩ := hQ105
 have lt105 : @LT.lt Nat _ t105 T105.heap.size := Av105.lt
 have sz4_K105 := K105.1
 have N105 := Fr.app N104 N105q
 have KC115 : Keep h0 h101 [] := (Keep.refl h0 []).trans K101 (all0)
 have KC116 : Keep h0 h102 [] := KC115.trans K102 (all0)
 have KC117 : Keep h0 h104 [] := KC116.trans K104 (allS (Or.inr (by omega)) (all0))
 have KC118 : Keep h0 T105.heap [] := KC117.trans K105 (allS (Or.inr (by omega)) (all0))
 obtain ⟨fs, hr, hrun, hended, hW, hsame⟩ := X105.leave (v := some (.ref b101)) (fun h => by rw [Bd.returns] at h; cases h)
 refine ⟨_, _, pre0 _ ?_, hrun, hended, _, _, rfl, ?_, ⟨_, rfl⟩, hW, hsame.mono (by decide) (by decide)⟩
 ·skip
  show SS p e below s₁ m 0 #[vI p1, vI p2, vI p3, vI p4, vI p5] [] _
  refine XS.iloadN X0.here hx rfl (hb hby d2_0) rfl ?_
  refine XS.ifYes X0.here hx rfl (pc0 := 1) (pc' := 15) rfl (hb hby d2_1) rfl ((if0 _ _).trans (feq (by rw [hm]; decide : ¬ (p1 = (0 : Int32)))).2) (by decide) (by decide) ?_
  refine XS.iloadN X0.here hx rfl (hb hby d2_15) rfl ?_
  refine XS.iconst X0.here hx rfl (hb hby d2_16) ?_
  refine XS.icmpNo X0.here hx rfl (hb hby d2_17) rfl (teq (hm : p1 = (1 : Int32))).2 ?_
  show SS p e below s₁ m 20 #[vI p1, vI p2, vI p3, vI p4, vI p5] [] _
  refine st101 _ ?_
  refine XS.dup X101.here hx rfl (hb hby d2_23) rfl rfl ?_
  refine XS.iconst X101.here hx rfl (hb hby d2_24) ?_
  show SS p e below T101 m 25 #[vI p1, vI p2, vI p3, vI p4, vI p5] [(.int 1), (.ref b101), (.ref b101)] _
  refine st102 _ ?_
  refine XS.dup X102.here hx rfl (hb hby d2_27) rfl rfl ?_
  refine XS.iconst X102.here hx rfl (hb hby d2_28) ?_
  refine XS.iloadN X102.here hx rfl (hb hby d2_29) rfl ?_
  show SS p e below T102 m 30 #[vI p1, vI p2, vI p3, vI p4, vI p5] [(.int p2), (.int 0), (.ref b102), (.ref b102), (.ref b101), (.ref b101)] _
  refine st104 _ ?_
  show SS p e below T104 m 31 #[vI p1, vI p2, vI p3, vI p4, vI p5] [(.ref b102), (.ref b101), (.ref b101)] _
  refine st105.trans ?_
  show SS p e below T105 m 34 #[vI p1, vI p2, vI p3, vI p4, vI p5] [(.ref b101)] _
  exact X105.areturnOut hx rfl Bd.returns rfl (hb hby d2_34) hr
 ·show Q_rmShort1L Z p1 p2 p3 p4 p5 cs h0 n0 _ T105.heap _
  exact ⟨_, _, _, rfl, N105, KC118, (by omega), E105, Vf105, C105, (by omega), Av105⟩
theorem ef_rmShort1U (m : MethodId) (y0 : Int32) (y1 : Int32) (y2 : Int32) (y3 : Int32) (y4 : Int32) : entryFrame m #[(.int y0), (.int y1), (.int y2), (.int y3), (.int y4)] 5 = (mkF m 0 #[vI y0, vI y1, vI y2, vI y3, vI y4] []) := by first | (simp [entryFrame, mkF, argsToLocals, Value.category]; done) | rfl
def Q_rmShort1U (Z : State) (p1 : Int32) (p2 : Int32) (p3 : Int32) (p4 : Int32) (p5 : Int32) (cs0 : Int32) (m1 : Nat) (h0 : Heap) (n0 : Nat) (v : Option Value) (h : Heap) (L : List Loc) : Prop := ∃ (x t : Addr) (kb : ClassId), v = some (.ref x) ∧ Fr n0 L ∧ Keep h0 h [] ∧ h0.size ≤ x ∧ Exa Z h x "java/lang/String" ∧ Fld Z h x "java/lang/String" "value" "[B" (.ref t) ∧ Fld Z h x "java/lang/String" "coder" "B" (.int 1) ∧ @Ne Nat t x ∧ Arv Z h t kb .byte (Int32.ofNat (2 * ([p2] : List Int32).length)) (u16 ([p2] : List Int32)) (.int 0)
set_option maxRecDepth 65536 in
set_option maxHeartbeats 40000000 in
theorem rmShort1U (l : Launch) (Z : State) (a0 : Array Value) (hw : ∀ d ∈ tables_1, d.before a0 Z = true) (ws : List Jvm.Cond) (p1 : Int32) (p2 : Int32) (p3 : Int32) (p4 : Int32) (p5 : Int32) (cs0 : Int32) (m1 : Nat) (h0 : Heap) (n0 : Nat) (O0 : Old Z n0 h0) (S_CS : SCS Z cs0) (c_CS : ¬ (cs0 = (0 : Int32))) (S_AD : SAD Z) (S_HI : SHI Z) (S_LO : SLO Z) (hm : p1 = (1 : Int32)) (r2 : ¬ p2 < 0 ∧ ¬ (65535 : Int32) < p2) (hcs : ∀ c ∈ ([p2] : List Int32), ¬ c < 0 ∧ ¬ (65535 : Int32) < c) (hj : m1 < ([p2] : List Int32).length) (hpre : ∀ j, j < m1 → ¬ ((255 : Int32) < ([p2] : List Int32).getD j 0)) (hend : (255 : Int32) < (([p2] : List Int32).getD m1 0)) :
  MetFree l mN37 (head1 (Jvm.Cond.code mN37 method_4_code 5 (some (.object "java/lang/String")) :: ws) (Rm 6 4 800 190)) (fun a U => a = #[(.int p1), (.int p2), (.int p3), (.int p4), (.int p5)] ∧ Z.Warmed39 U.vm ∧ U.heap = h0) (fun _ _ _ _ _ => True) (fun _ U o U' => ∃ v L, o = .returned v ∧ Q_rmShort1U Z p1 p2 p3 p4 p5 cs0 m1 h0 n0 v U'.heap L ∧ FrameEnd U o U' L (Rm 6 4 800 190).cells (Rm 6 4 800 190).slots) := by
 refine MetFree.of_bodySF (plainFor_of_name pn_2) hisR ?_
 intro p e s m args below meth c s₁ Bd hml0 hP hK
 obtain ⟨rfl, hZ, hh⟩ := hP
 have hx := Bd.exec
 have hby := Bd.bytes
 have hml : c.maxLocals = 5 := hml0
 have hown : s.vm.findClass "com/example/coterie/coterie/job/JobIsWellFormedKeyPinLaw" = some m.cls := findClass_of_methodNamed Bd.named
 have hnm := (name_of_methodNamed Bd.named Bd.method).1
 have X0 : Stand p l e (Rm 6 4 800 190) s m #[(.int p1), (.int p2), (.int p3), (.int p4), (.int p5)] below meth c s₁ [] 0 0 := Stand.of_body Bd
 have e0 : s₁.heap = h0 := by rw [← hh, Bd.state]; rfl
 have N0 := Fr.nil n0
 have hn0 : n0 ≤ h0.size := O0.1 ▸ O0.2.1
 have pre0 : ∀ t, SS p e below s₁ m 0 #[vI p1, vI p2, vI p3, vI p4, vI p5] [] t → Steps p.tables e below (s₁.setTop (entryFrame m #[(.int p1), (.int p2), (.int p3), (.int p4), (.int p5)] 5)) t := fun t k => castTop (ef_rmShort1U m p1 p2 p3 p4 p5) k
 obtain ⟨T101, h101, X101, e101, E101, A101, D101, -, st101⟩ := newO X0 hx hZ hown (tw hw 9 rfl) (tw hw 10 rfl) (tw hw 11 rfl) e0 (g := (mkF m 20 #[vI p1, vI p2, vI p3, vI p4, vI p5] [])) rfl (hb hby d2_20) (by decide) (by decide)
 obtain ⟨b101, g101⟩ : ∃ z, z = h0.size := ⟨_, rfl⟩
 rw [← g101] at A101 D101 st101
 have lt101 : @LT.lt Nat _ b101 h101.size := A101.lt
 have K101 : Keep h0 h101 [] := (Keep.refl _ _).ext E101
 have sz1_K101 := K101.1
 have F101_value : Fld Z h101 b101 "java/lang/String" "value" "[B" .null := D101 (Or.inr (tw hw 25 rfl)) (ty := (.array .byte)) (by decide)
 have F101_coder : Fld Z h101 b101 "java/lang/String" "coder" "B" (.int 0) := D101 (Or.inr (tw hw 26 rfl)) (ty := .byte) (by decide)
 obtain ⟨T102, h102, k102, X102, e102, E102, A102, st102⟩ := newP X101 hx hZ (tw hw 12 rfl) e101 (g := (mkF m 25 #[vI p1, vI p2, vI p3, vI p4, vI p5] [(.int 1), (.ref b101), (.ref b101)])) rfl (hb hby d2_25) rfl (by decide) (cap := 1) (by decide) (by decide) (by decide) (by decide)
 obtain ⟨b102, g102⟩ : ∃ z, z = h101.size := ⟨_, rfl⟩
 rw [← g102] at A102 st102
 have V102 : Arv Z h102 b102 k102 .char (1 : Int32) [(.int 0)] (.int 0) := (Arv.new A102 (by decide)).pad (pad_rep [] (.int 0) 1)
 have lt102 : @LT.lt Nat _ b102 h102.size := V102.lt
 have K102 : Keep h101 h102 [] := (Keep.refl _ _).ext E102
 have sz2_K102 := K102.1
 obtain ⟨cl103, Ar103, q103, S103, Nn103, H103, G103⟩ := id V102
 obtain ⟨T104, h104, X104, e104, W104, st104⟩ := stC X102 hx hZ e102 Ar103 (j := (0 : Int32)) (inb_of S103 ⟨by decide, by decide⟩) (g := (mkF m 30 #[vI p1, vI p2, vI p3, vI p4, vI p5] [(.int p2), (.int 0), (.ref b102), (.ref b102), (.ref b101), (.ref b101)])) rfl rfl (hb hby d2_30)
 rw [own_nc r2] at W104
 have V104 : Arv Z h104 b102 k102 .char (1 : Int32) [(.int p2)] (.int 0) := Arv.set Ar103 q103 S103 Nn103 H103 G103 (own_fitc r2) W104 0 rfl (Nat.le_of_ble_eq_true rfl)
 have K104 := Keep.of_wr W104
 have N104 := Fr.snoc X104 N0 (by omega : @LE.le Nat _ n0 b102)
 have sz3_K104 := K104.1
 have C106 := A101.keep K102
 have C107 := C106.keep K104
 have C108 := F101_value.keep K102 nin0
 have C109 := C108.keep K104 (ninS (by omega : @Ne Nat b101 b102) (nin0))
 have C110 := F101_coder.keep K102 nin0
 have C111 := C110.keep K104 (ninS (by omega : @Ne Nat b101 b102) (nin0))
 have O112 : Old Z n0 h101 := O0.keep K101 all0
 have O113 : Old Z n0 h102 := O112.keep K102 all0
 have O114 : Old Z n0 h104 := O113.keep K104 (allS (by omega) (all0))
 obtain ⟨_, _, ⟨T105, L105, k105, n105⟩, -, X105, ⟨Lc105, hQ105, l105, y105, z105⟩, st105⟩ := X104.specialBack hx (y := mN9) rfl hown (mvT hZ (tw hw 13 rfl)) (mvT hZ (tw hw 14 rfl)) (mvT hZ (tw hw 15 rfl)) (by decide) (backOf (W := 1) (rmInit1U l Z a0 hw [] b101 b102 ([p2] : List Int32) k102 (.int 0) m1 cs0 h104 n0 O114 S_CS c_CS S_AD S_HI S_LO V104 (by simp) hcs hj hpre hend (by omega : @LE.le Nat _ n0 b101) C107 C109 C111 (by omega)) hZ (tw hw 15 rfl) (tw hw 11 rfl) (by decide) (by decide)) (g := (mkF m 31 #[vI p1, vI p2, vI p3, vI p4, vI p5] [(.ref b102), (.ref b101), (.ref b101)])) rfl (by rw [hml]; rfl) (Steps.refl _) (a := b101) (argsL := [(.ref b102)]) (rest := [(.ref b101)]) (lenOf pd_2 rfl) rfl (by show 2 * 0 + _ ≤ _; exact Nat.le_of_eq rfl) (hb hby d2_31) (fun _ _ => ⟨rfl, e104, (by decide : 2 + 2 ≤ _), (by decide : 5 + 771 ≤ _)⟩)
 dsimp only [Pt.U, Pt.locs, Pt.cells, Pt.slots] at X105 l105 y105 z105 st105 hQ105
 subst l105 y105 z105
 obtain ⟨t105, kb105, rfl, N105q, K105, E105, Fv105, Fc105, gt105, tx105, V105⟩ := hQ105
 have lt105 : @LT.lt Nat _ t105 T105.heap.size := V105.lt
 have sz4_K105 := K105.1
 have N105 := Fr.app N104 N105q
 have KC115 : Keep h0 h101 [] := (Keep.refl h0 []).trans K101 (all0)
 have KC116 : Keep h0 h102 [] := KC115.trans K102 (all0)
 have KC117 : Keep h0 h104 [] := KC116.trans K104 (allS (Or.inr (by omega)) (all0))
 have KC118 : Keep h0 T105.heap [] := KC117.trans K105 (allS (Or.inr (by omega)) (all0))
 obtain ⟨fs, hr, hrun, hended, hW, hsame⟩ := X105.leave (v := some (.ref b101)) (fun h => by rw [Bd.returns] at h; cases h)
 refine ⟨_, _, pre0 _ ?_, hrun, hended, _, _, rfl, ?_, ⟨_, rfl⟩, hW, hsame.mono (by decide) (by decide)⟩
 ·skip
  show SS p e below s₁ m 0 #[vI p1, vI p2, vI p3, vI p4, vI p5] [] _
  refine XS.iloadN X0.here hx rfl (hb hby d2_0) rfl ?_
  refine XS.ifYes X0.here hx rfl (pc0 := 1) (pc' := 15) rfl (hb hby d2_1) rfl ((if0 _ _).trans (feq (by rw [hm]; decide : ¬ (p1 = (0 : Int32)))).2) (by decide) (by decide) ?_
  refine XS.iloadN X0.here hx rfl (hb hby d2_15) rfl ?_
  refine XS.iconst X0.here hx rfl (hb hby d2_16) ?_
  refine XS.icmpNo X0.here hx rfl (hb hby d2_17) rfl (teq (hm : p1 = (1 : Int32))).2 ?_
  show SS p e below s₁ m 20 #[vI p1, vI p2, vI p3, vI p4, vI p5] [] _
  refine st101 _ ?_
  refine XS.dup X101.here hx rfl (hb hby d2_23) rfl rfl ?_
  refine XS.iconst X101.here hx rfl (hb hby d2_24) ?_
  show SS p e below T101 m 25 #[vI p1, vI p2, vI p3, vI p4, vI p5] [(.int 1), (.ref b101), (.ref b101)] _
  refine st102 _ ?_
  refine XS.dup X102.here hx rfl (hb hby d2_27) rfl rfl ?_
  refine XS.iconst X102.here hx rfl (hb hby d2_28) ?_
  refine XS.iloadN X102.here hx rfl (hb hby d2_29) rfl ?_
  show SS p e below T102 m 30 #[vI p1, vI p2, vI p3, vI p4, vI p5] [(.int p2), (.int 0), (.ref b102), (.ref b102), (.ref b101), (.ref b101)] _
  refine st104 _ ?_
  show SS p e below T104 m 31 #[vI p1, vI p2, vI p3, vI p4, vI p5] [(.ref b102), (.ref b101), (.ref b101)] _
  refine st105.trans ?_
  show SS p e below T105 m 34 #[vI p1, vI p2, vI p3, vI p4, vI p5] [(.ref b101)] _
  exact X105.areturnOut hx rfl Bd.returns rfl (hb hby d2_34) hr
 ·show Q_rmShort1U Z p1 p2 p3 p4 p5 cs0 m1 h0 n0 _ T105.heap _
  exact ⟨_, _, _, rfl, N105, KC118, (by omega), E105, Fv105, Fc105, (by omega), V105⟩
theorem d2_35 : decode cD37 35 = .ok (.iload_n 0, 1) := by decide +kernel
theorem d2_36 : decode cD37 36 = .ok (.iconst 2, 1) := by decide +kernel
theorem d2_37 : decode cD37 37 = .ok (.if_icmp .ne 22, 3) := by decide +kernel
theorem d2_40 : decode cD37 40 = .ok (.new 11, 3) := by decide +kernel
theorem d2_43 : decode cD37 43 = .ok (.dup, 1) := by decide +kernel
theorem d2_44 : decode cD37 44 = .ok (.iconst 2, 1) := by decide +kernel
theorem d2_45 : decode cD37 45 = .ok (.newarray .char, 2) := by decide +kernel
theorem d2_47 : decode cD37 47 = .ok (.dup, 1) := by decide +kernel
theorem d2_48 : decode cD37 48 = .ok (.iconst 0, 1) := by decide +kernel
theorem d2_49 : decode cD37 49 = .ok (.iload_n 1, 1) := by decide +kernel
theorem d2_50 : decode cD37 50 = .ok (.castore, 1) := by decide +kernel
theorem d2_51 : decode cD37 51 = .ok (.dup, 1) := by decide +kernel
theorem d2_52 : decode cD37 52 = .ok (.iconst 1, 1) := by decide +kernel
theorem d2_53 : decode cD37 53 = .ok (.iload_n 2, 1) := by decide +kernel
theorem d2_54 : decode cD37 54 = .ok (.castore, 1) := by decide +kernel
theorem d2_55 : decode cD37 55 = .ok (.invokespecial 13, 3) := by decide +kernel
theorem d2_58 : decode cD37 58 = .ok (.areturn, 1) := by decide +kernel
theorem ef_rmShort2L (m : MethodId) (y0 : Int32) (y1 : Int32) (y2 : Int32) (y3 : Int32) (y4 : Int32) : entryFrame m #[(.int y0), (.int y1), (.int y2), (.int y3), (.int y4)] 5 = (mkF m 0 #[vI y0, vI y1, vI y2, vI y3, vI y4] []) := by first | (simp [entryFrame, mkF, argsToLocals, Value.category]; done) | rfl
def Q_rmShort2L (Z : State) (p1 : Int32) (p2 : Int32) (p3 : Int32) (p4 : Int32) (p5 : Int32) (cs : Int32) (h0 : Heap) (n0 : Nat) (v : Option Value) (h : Heap) (L : List Loc) : Prop := ∃ (x t : Addr) (kb : ClassId), v = some (.ref x) ∧ Fr n0 L ∧ Keep h0 h [] ∧ h0.size ≤ x ∧ Exa Z h x "java/lang/String" ∧ Fld Z h x "java/lang/String" "value" "[B" (.ref t) ∧ Fld Z h x "java/lang/String" "coder" "B" (.int 0) ∧ @Ne Nat t x ∧ Arv Z h t kb .byte (Int32.ofNat (([p2, p3] : List Int32).map (fun c => c.toInt8.toInt32)).length) ((([p2, p3] : List Int32).map (fun c => c.toInt8.toInt32)).map Value.int) (.int 0)
set_option maxRecDepth 65536 in
set_option maxHeartbeats 40000000 in
theorem rmShort2L (l : Launch) (Z : State) (a0 : Array Value) (hw : ∀ d ∈ tables_1, d.before a0 Z = true) (ws : List Jvm.Cond) (p1 : Int32) (p2 : Int32) (p3 : Int32) (p4 : Int32) (p5 : Int32) (cs : Int32) (h0 : Heap) (n0 : Nat) (O0 : Old Z n0 h0) (S_CS : SCS Z cs) (c_CS : ¬ (cs = (0 : Int32))) (hm : p1 = (2 : Int32)) (r2 : ¬ p2 < 0 ∧ ¬ (65535 : Int32) < p2) (r3 : ¬ p3 < 0 ∧ ¬ (65535 : Int32) < p3) (hL : ∀ c ∈ ([p2, p3] : List Int32), ¬ c < 0 ∧ ¬ (255 : Int32) < c) :
  MetFree l mN37 (head1 (Jvm.Cond.code mN37 method_4_code 5 (some (.object "java/lang/String")) :: ws) (Rm 6 4 800 190)) (fun a U => a = #[(.int p1), (.int p2), (.int p3), (.int p4), (.int p5)] ∧ Z.Warmed39 U.vm ∧ U.heap = h0) (fun _ _ _ _ _ => True) (fun _ U o U' => ∃ v L, o = .returned v ∧ Q_rmShort2L Z p1 p2 p3 p4 p5 cs h0 n0 v U'.heap L ∧ FrameEnd U o U' L (Rm 6 4 800 190).cells (Rm 6 4 800 190).slots) := by
 refine MetFree.of_bodySF (plainFor_of_name pn_2) hisR ?_
 intro p e s m args below meth c s₁ Bd hml0 hP hK
 obtain ⟨rfl, hZ, hh⟩ := hP
 have hx := Bd.exec
 have hby := Bd.bytes
 have hml : c.maxLocals = 5 := hml0
 have hown : s.vm.findClass "com/example/coterie/coterie/job/JobIsWellFormedKeyPinLaw" = some m.cls := findClass_of_methodNamed Bd.named
 have hnm := (name_of_methodNamed Bd.named Bd.method).1
 have X0 : Stand p l e (Rm 6 4 800 190) s m #[(.int p1), (.int p2), (.int p3), (.int p4), (.int p5)] below meth c s₁ [] 0 0 := Stand.of_body Bd
 have e0 : s₁.heap = h0 := by rw [← hh, Bd.state]; rfl
 have N0 := Fr.nil n0
 have hn0 : n0 ≤ h0.size := O0.1 ▸ O0.2.1
 have pre0 : ∀ t, SS p e below s₁ m 0 #[vI p1, vI p2, vI p3, vI p4, vI p5] [] t → Steps p.tables e below (s₁.setTop (entryFrame m #[(.int p1), (.int p2), (.int p3), (.int p4), (.int p5)] 5)) t := fun t k => castTop (ef_rmShort2L m p1 p2 p3 p4 p5) k
 have hws : ∀ d ∈ StrChars.Road.words, d.before a0 Z = true := fun d hd => hw d ((by decide +kernel : ∀ d ∈ StrChars.Road.words, d ∈ tables_1) d hd)
 obtain ⟨T101, h101, X101, e101, E101, A101, D101, -, st101⟩ := newO X0 hx hZ hown (tw hw 9 rfl) (tw hw 10 rfl) (tw hw 11 rfl) e0 (g := (mkF m 40 #[vI p1, vI p2, vI p3, vI p4, vI p5] [])) rfl (hb hby d2_40) (by decide) (by decide)
 obtain ⟨b101, g101⟩ : ∃ z, z = h0.size := ⟨_, rfl⟩
 rw [← g101] at A101 D101 st101
 have lt101 : @LT.lt Nat _ b101 h101.size := A101.lt
 have K101 : Keep h0 h101 [] := (Keep.refl _ _).ext E101
 have sz1_K101 := K101.1
 have F101_value : Fld Z h101 b101 "java/lang/String" "value" "[B" .null := D101 (Or.inr (tw hw 25 rfl)) (ty := (.array .byte)) (by decide)
 have F101_coder : Fld Z h101 b101 "java/lang/String" "coder" "B" (.int 0) := D101 (Or.inr (tw hw 26 rfl)) (ty := .byte) (by decide)
 obtain ⟨T102, h102, k102, X102, e102, E102, A102, st102⟩ := newP X101 hx hZ (tw hw 12 rfl) e101 (g := (mkF m 45 #[vI p1, vI p2, vI p3, vI p4, vI p5] [(.int 2), (.ref b101), (.ref b101)])) rfl (hb hby d2_45) rfl (by decide) (cap := 2) (by decide) (by decide) (by decide) (by decide)
 obtain ⟨b102, g102⟩ : ∃ z, z = h101.size := ⟨_, rfl⟩
 rw [← g102] at A102 st102
 have V102 : Arv Z h102 b102 k102 .char (2 : Int32) [(.int 0), (.int 0)] (.int 0) := (Arv.new A102 (by decide)).pad (pad_rep [] (.int 0) 2)
 have lt102 : @LT.lt Nat _ b102 h102.size := V102.lt
 have K102 : Keep h101 h102 [] := (Keep.refl _ _).ext E102
 have sz2_K102 := K102.1
 obtain ⟨cl103, Ar103, q103, S103, Nn103, H103, G103⟩ := id V102
 obtain ⟨T104, h104, X104, e104, W104, st104⟩ := stC X102 hx hZ e102 Ar103 (j := (0 : Int32)) (inb_of S103 ⟨by decide, by decide⟩) (g := (mkF m 50 #[vI p1, vI p2, vI p3, vI p4, vI p5] [(.int p2), (.int 0), (.ref b102), (.ref b102), (.ref b101), (.ref b101)])) rfl rfl (hb hby d2_50)
 rw [own_nc r2] at W104
 have V104 : Arv Z h104 b102 k102 .char (2 : Int32) [(.int p2), (.int 0)] (.int 0) := Arv.set Ar103 q103 S103 Nn103 H103 G103 (own_fitc r2) W104 0 rfl (Nat.le_of_ble_eq_true rfl)
 have K104 := Keep.of_wr W104
 have N104 := Fr.snoc X104 N0 (by omega : @LE.le Nat _ n0 b102)
 have sz3_K104 := K104.1
 obtain ⟨cl105, Ar105, q105, S105, Nn105, H105, G105⟩ := id V104
 obtain ⟨T106, h106, X106, e106, W106, st106⟩ := stC X104 hx hZ e104 Ar105 (j := (1 : Int32)) (inb_of S105 ⟨by decide, by decide⟩) (g := (mkF m 54 #[vI p1, vI p2, vI p3, vI p4, vI p5] [(.int p3), (.int 1), (.ref b102), (.ref b102), (.ref b101), (.ref b101)])) rfl rfl (hb hby d2_54)
 rw [own_nc r3] at W106
 have V106 : Arv Z h106 b102 k102 .char (2 : Int32) [(.int p2), (.int p3)] (.int 0) := Arv.set Ar105 q105 S105 Nn105 H105 G105 (own_fitc r3) W106 1 rfl (Nat.le_of_ble_eq_true rfl)
 have K106 := Keep.of_wr W106
 have N106 := Fr.snoc X106 N104 (by omega : @LE.le Nat _ n0 b102)
 have sz4_K106 := K106.1
 have C108 := A101.keep K102
 have C109 := C108.keep K104
 have C110 := C109.keep K106
 have C111 := F101_value.keep K102 nin0
 have C112 := C111.keep K104 (ninS (by omega : @Ne Nat b101 b102) (nin0))
 have C113 := C112.keep K106 (ninS (by omega : @Ne Nat b101 b102) (nin0))
 have C114 := F101_coder.keep K102 nin0
 have C115 := C114.keep K104 (ninS (by omega : @Ne Nat b101 b102) (nin0))
 have C116 := C115.keep K106 (ninS (by omega : @Ne Nat b101 b102) (nin0))
 have O117 : Old Z n0 h101 := O0.keep K101 all0
 have O118 : Old Z n0 h102 := O117.keep K102 all0
 have O119 : Old Z n0 h104 := O118.keep K104 (allS (by omega) (all0))
 have O120 : Old Z n0 h106 := O119.keep K106 (allS (by omega) (all0))
 obtain ⟨_, _, ⟨T107, L107, k107, n107⟩, -, X107, ⟨Lc107, hQ107, l107, y107, z107⟩, st107⟩ := X106.specialBack hx (y := mN9) rfl hown (mvT hZ (tw hw 13 rfl)) (mvT hZ (tw hw 14 rfl)) (mvT hZ (tw hw 15 rfl)) (by decide) (StrChars.Road.backV (W := 1) hZ hws (kI := 4) (tw hw 10 rfl) (cs := ([p2, p3] : List Int32)) (bs := ([p2, p3] : List Int32).map (fun c => c.toInt8.toInt32)) (n := 2) (by omega : @LE.le Nat _ n0 b101) (by omega) C110 C113 C116 V106 (Sta.ext O120.2 S_CS) c_CS rfl rfl (by decide) (by decide) hL rfl (by decide) (by decide)) (g := (mkF m 55 #[vI p1, vI p2, vI p3, vI p4, vI p5] [(.ref b102), (.ref b101), (.ref b101)])) rfl (by rw [hml]; rfl) (Steps.refl _) (a := b101) (argsL := [(.ref b102)]) (rest := [(.ref b101)]) (lenOf pd_2 rfl) rfl (by show 2 * 0 + _ ≤ _; exact Nat.le_of_eq rfl) (hb hby d2_55) (fun _ _ => ⟨rfl, e106, (by decide : 2 + 1 ≤ _), (by decide : 6 + 2 ≤ _)⟩)
 dsimp only [Pt.U, Pt.locs, Pt.cells, Pt.slots] at X107 l107 y107 z107 st107 hQ107
 subst l107 y107 z107
 obtain ⟨rfl, N107q, K107, E107, C107, t107, kb107, ge107, gh107, tx107, Vf107, Av107⟩ := hQ107
 have lt107 : @LT.lt Nat _ t107 T107.heap.size := Av107.lt
 have sz5_K107 := K107.1
 have N107 := Fr.app N106 N107q
 have KC121 : Keep h0 h101 [] := (Keep.refl h0 []).trans K101 (all0)
 have KC122 : Keep h0 h102 [] := KC121.trans K102 (all0)
 have KC123 : Keep h0 h104 [] := KC122.trans K104 (allS (Or.inr (by omega)) (all0))
 have KC124 : Keep h0 h106 [] := KC123.trans K106 (allS (Or.inr (by omega)) (all0))
 have KC125 : Keep h0 T107.heap [] := KC124.trans K107 (allS (Or.inr (by omega)) (all0))
 obtain ⟨fs, hr, hrun, hended, hW, hsame⟩ := X107.leave (v := some (.ref b101)) (fun h => by rw [Bd.returns] at h; cases h)
 refine ⟨_, _, pre0 _ ?_, hrun, hended, _, _, rfl, ?_, ⟨_, rfl⟩, hW, hsame.mono (by decide) (by decide)⟩
 ·skip
  show SS p e below s₁ m 0 #[vI p1, vI p2, vI p3, vI p4, vI p5] [] _
  refine XS.iloadN X0.here hx rfl (hb hby d2_0) rfl ?_
  refine XS.ifYes X0.here hx rfl (pc0 := 1) (pc' := 15) rfl (hb hby d2_1) rfl ((if0 _ _).trans (feq (by rw [hm]; decide : ¬ (p1 = (0 : Int32)))).2) (by decide) (by decide) ?_
  refine XS.iloadN X0.here hx rfl (hb hby d2_15) rfl ?_
  refine XS.iconst X0.here hx rfl (hb hby d2_16) ?_
  refine XS.icmpYes X0.here hx rfl (pc0 := 17) (pc' := 35) rfl (hb hby d2_17) rfl (feq (by rw [hm]; decide : ¬ (p1 = (1 : Int32)))).2 (by decide) (by decide) ?_
  refine XS.iloadN X0.here hx rfl (hb hby d2_35) rfl ?_
  refine XS.iconst X0.here hx rfl (hb hby d2_36) ?_
  refine XS.icmpNo X0.here hx rfl (hb hby d2_37) rfl (teq (hm : p1 = (2 : Int32))).2 ?_
  show SS p e below s₁ m 40 #[vI p1, vI p2, vI p3, vI p4, vI p5] [] _
  refine st101 _ ?_
  refine XS.dup X101.here hx rfl (hb hby d2_43) rfl rfl ?_
  refine XS.iconst X101.here hx rfl (hb hby d2_44) ?_
  show SS p e below T101 m 45 #[vI p1, vI p2, vI p3, vI p4, vI p5] [(.int 2), (.ref b101), (.ref b101)] _
  refine st102 _ ?_
  refine XS.dup X102.here hx rfl (hb hby d2_47) rfl rfl ?_
  refine XS.iconst X102.here hx rfl (hb hby d2_48) ?_
  refine XS.iloadN X102.here hx rfl (hb hby d2_49) rfl ?_
  show SS p e below T102 m 50 #[vI p1, vI p2, vI p3, vI p4, vI p5] [(.int p2), (.int 0), (.ref b102), (.ref b102), (.ref b101), (.ref b101)] _
  refine st104 _ ?_
  refine XS.dup X104.here hx rfl (hb hby d2_51) rfl rfl ?_
  refine XS.iconst X104.here hx rfl (hb hby d2_52) ?_
  refine XS.iloadN X104.here hx rfl (hb hby d2_53) rfl ?_
  show SS p e below T104 m 54 #[vI p1, vI p2, vI p3, vI p4, vI p5] [(.int p3), (.int 1), (.ref b102), (.ref b102), (.ref b101), (.ref b101)] _
  refine st106 _ ?_
  show SS p e below T106 m 55 #[vI p1, vI p2, vI p3, vI p4, vI p5] [(.ref b102), (.ref b101), (.ref b101)] _
  refine st107.trans ?_
  show SS p e below T107 m 58 #[vI p1, vI p2, vI p3, vI p4, vI p5] [(.ref b101)] _
  exact X107.areturnOut hx rfl Bd.returns rfl (hb hby d2_58) hr
 ·show Q_rmShort2L Z p1 p2 p3 p4 p5 cs h0 n0 _ T107.heap _
  exact ⟨_, _, _, rfl, N107, KC125, (by omega), E107, Vf107, C107, (by omega), Av107⟩
theorem ef_rmShort2U (m : MethodId) (y0 : Int32) (y1 : Int32) (y2 : Int32) (y3 : Int32) (y4 : Int32) : entryFrame m #[(.int y0), (.int y1), (.int y2), (.int y3), (.int y4)] 5 = (mkF m 0 #[vI y0, vI y1, vI y2, vI y3, vI y4] []) := by first | (simp [entryFrame, mkF, argsToLocals, Value.category]; done) | rfl
def Q_rmShort2U (Z : State) (p1 : Int32) (p2 : Int32) (p3 : Int32) (p4 : Int32) (p5 : Int32) (cs0 : Int32) (m1 : Nat) (h0 : Heap) (n0 : Nat) (v : Option Value) (h : Heap) (L : List Loc) : Prop := ∃ (x t : Addr) (kb : ClassId), v = some (.ref x) ∧ Fr n0 L ∧ Keep h0 h [] ∧ h0.size ≤ x ∧ Exa Z h x "java/lang/String" ∧ Fld Z h x "java/lang/String" "value" "[B" (.ref t) ∧ Fld Z h x "java/lang/String" "coder" "B" (.int 1) ∧ @Ne Nat t x ∧ Arv Z h t kb .byte (Int32.ofNat (2 * ([p2, p3] : List Int32).length)) (u16 ([p2, p3] : List Int32)) (.int 0)
set_option maxRecDepth 65536 in
set_option maxHeartbeats 40000000 in
theorem rmShort2U (l : Launch) (Z : State) (a0 : Array Value) (hw : ∀ d ∈ tables_1, d.before a0 Z = true) (ws : List Jvm.Cond) (p1 : Int32) (p2 : Int32) (p3 : Int32) (p4 : Int32) (p5 : Int32) (cs0 : Int32) (m1 : Nat) (h0 : Heap) (n0 : Nat) (O0 : Old Z n0 h0) (S_CS : SCS Z cs0) (c_CS : ¬ (cs0 = (0 : Int32))) (S_AD : SAD Z) (S_HI : SHI Z) (S_LO : SLO Z) (hm : p1 = (2 : Int32)) (r2 : ¬ p2 < 0 ∧ ¬ (65535 : Int32) < p2) (r3 : ¬ p3 < 0 ∧ ¬ (65535 : Int32) < p3) (hcs : ∀ c ∈ ([p2, p3] : List Int32), ¬ c < 0 ∧ ¬ (65535 : Int32) < c) (hj : m1 < ([p2, p3] : List Int32).length) (hpre : ∀ j, j < m1 → ¬ ((255 : Int32) < ([p2, p3] : List Int32).getD j 0)) (hend : (255 : Int32) < (([p2, p3] : List Int32).getD m1 0)) :
  MetFree l mN37 (head1 (Jvm.Cond.code mN37 method_4_code 5 (some (.object "java/lang/String")) :: ws) (Rm 6 4 800 190)) (fun a U => a = #[(.int p1), (.int p2), (.int p3), (.int p4), (.int p5)] ∧ Z.Warmed39 U.vm ∧ U.heap = h0) (fun _ _ _ _ _ => True) (fun _ U o U' => ∃ v L, o = .returned v ∧ Q_rmShort2U Z p1 p2 p3 p4 p5 cs0 m1 h0 n0 v U'.heap L ∧ FrameEnd U o U' L (Rm 6 4 800 190).cells (Rm 6 4 800 190).slots) := by
 refine MetFree.of_bodySF (plainFor_of_name pn_2) hisR ?_
 intro p e s m args below meth c s₁ Bd hml0 hP hK
 obtain ⟨rfl, hZ, hh⟩ := hP
 have hx := Bd.exec
 have hby := Bd.bytes
 have hml : c.maxLocals = 5 := hml0
 have hown : s.vm.findClass "com/example/coterie/coterie/job/JobIsWellFormedKeyPinLaw" = some m.cls := findClass_of_methodNamed Bd.named
 have hnm := (name_of_methodNamed Bd.named Bd.method).1
 have X0 : Stand p l e (Rm 6 4 800 190) s m #[(.int p1), (.int p2), (.int p3), (.int p4), (.int p5)] below meth c s₁ [] 0 0 := Stand.of_body Bd
 have e0 : s₁.heap = h0 := by rw [← hh, Bd.state]; rfl
 have N0 := Fr.nil n0
 have hn0 : n0 ≤ h0.size := O0.1 ▸ O0.2.1
 have pre0 : ∀ t, SS p e below s₁ m 0 #[vI p1, vI p2, vI p3, vI p4, vI p5] [] t → Steps p.tables e below (s₁.setTop (entryFrame m #[(.int p1), (.int p2), (.int p3), (.int p4), (.int p5)] 5)) t := fun t k => castTop (ef_rmShort2U m p1 p2 p3 p4 p5) k
 obtain ⟨T101, h101, X101, e101, E101, A101, D101, -, st101⟩ := newO X0 hx hZ hown (tw hw 9 rfl) (tw hw 10 rfl) (tw hw 11 rfl) e0 (g := (mkF m 40 #[vI p1, vI p2, vI p3, vI p4, vI p5] [])) rfl (hb hby d2_40) (by decide) (by decide)
 obtain ⟨b101, g101⟩ : ∃ z, z = h0.size := ⟨_, rfl⟩
 rw [← g101] at A101 D101 st101
 have lt101 : @LT.lt Nat _ b101 h101.size := A101.lt
 have K101 : Keep h0 h101 [] := (Keep.refl _ _).ext E101
 have sz1_K101 := K101.1
 have F101_value : Fld Z h101 b101 "java/lang/String" "value" "[B" .null := D101 (Or.inr (tw hw 25 rfl)) (ty := (.array .byte)) (by decide)
 have F101_coder : Fld Z h101 b101 "java/lang/String" "coder" "B" (.int 0) := D101 (Or.inr (tw hw 26 rfl)) (ty := .byte) (by decide)
 obtain ⟨T102, h102, k102, X102, e102, E102, A102, st102⟩ := newP X101 hx hZ (tw hw 12 rfl) e101 (g := (mkF m 45 #[vI p1, vI p2, vI p3, vI p4, vI p5] [(.int 2), (.ref b101), (.ref b101)])) rfl (hb hby d2_45) rfl (by decide) (cap := 2) (by decide) (by decide) (by decide) (by decide)
 obtain ⟨b102, g102⟩ : ∃ z, z = h101.size := ⟨_, rfl⟩
 rw [← g102] at A102 st102
 have V102 : Arv Z h102 b102 k102 .char (2 : Int32) [(.int 0), (.int 0)] (.int 0) := (Arv.new A102 (by decide)).pad (pad_rep [] (.int 0) 2)
 have lt102 : @LT.lt Nat _ b102 h102.size := V102.lt
 have K102 : Keep h101 h102 [] := (Keep.refl _ _).ext E102
 have sz2_K102 := K102.1
 obtain ⟨cl103, Ar103, q103, S103, Nn103, H103, G103⟩ := id V102
 obtain ⟨T104, h104, X104, e104, W104, st104⟩ := stC X102 hx hZ e102 Ar103 (j := (0 : Int32)) (inb_of S103 ⟨by decide, by decide⟩) (g := (mkF m 50 #[vI p1, vI p2, vI p3, vI p4, vI p5] [(.int p2), (.int 0), (.ref b102), (.ref b102), (.ref b101), (.ref b101)])) rfl rfl (hb hby d2_50)
 rw [own_nc r2] at W104
 have V104 : Arv Z h104 b102 k102 .char (2 : Int32) [(.int p2), (.int 0)] (.int 0) := Arv.set Ar103 q103 S103 Nn103 H103 G103 (own_fitc r2) W104 0 rfl (Nat.le_of_ble_eq_true rfl)
 have K104 := Keep.of_wr W104
 have N104 := Fr.snoc X104 N0 (by omega : @LE.le Nat _ n0 b102)
 have sz3_K104 := K104.1
 obtain ⟨cl105, Ar105, q105, S105, Nn105, H105, G105⟩ := id V104
 obtain ⟨T106, h106, X106, e106, W106, st106⟩ := stC X104 hx hZ e104 Ar105 (j := (1 : Int32)) (inb_of S105 ⟨by decide, by decide⟩) (g := (mkF m 54 #[vI p1, vI p2, vI p3, vI p4, vI p5] [(.int p3), (.int 1), (.ref b102), (.ref b102), (.ref b101), (.ref b101)])) rfl rfl (hb hby d2_54)
 rw [own_nc r3] at W106
 have V106 : Arv Z h106 b102 k102 .char (2 : Int32) [(.int p2), (.int p3)] (.int 0) := Arv.set Ar105 q105 S105 Nn105 H105 G105 (own_fitc r3) W106 1 rfl (Nat.le_of_ble_eq_true rfl)
 have K106 := Keep.of_wr W106
 have N106 := Fr.snoc X106 N104 (by omega : @LE.le Nat _ n0 b102)
 have sz4_K106 := K106.1
 have C108 := A101.keep K102
 have C109 := C108.keep K104
 have C110 := C109.keep K106
 have C111 := F101_value.keep K102 nin0
 have C112 := C111.keep K104 (ninS (by omega : @Ne Nat b101 b102) (nin0))
 have C113 := C112.keep K106 (ninS (by omega : @Ne Nat b101 b102) (nin0))
 have C114 := F101_coder.keep K102 nin0
 have C115 := C114.keep K104 (ninS (by omega : @Ne Nat b101 b102) (nin0))
 have C116 := C115.keep K106 (ninS (by omega : @Ne Nat b101 b102) (nin0))
 have O117 : Old Z n0 h101 := O0.keep K101 all0
 have O118 : Old Z n0 h102 := O117.keep K102 all0
 have O119 : Old Z n0 h104 := O118.keep K104 (allS (by omega) (all0))
 have O120 : Old Z n0 h106 := O119.keep K106 (allS (by omega) (all0))
 obtain ⟨_, _, ⟨T107, L107, k107, n107⟩, -, X107, ⟨Lc107, hQ107, l107, y107, z107⟩, st107⟩ := X106.specialBack hx (y := mN9) rfl hown (mvT hZ (tw hw 13 rfl)) (mvT hZ (tw hw 14 rfl)) (mvT hZ (tw hw 15 rfl)) (by decide) (backOf (W := 1) (rmInit1U l Z a0 hw [] b101 b102 ([p2, p3] : List Int32) k102 (.int 0) m1 cs0 h106 n0 O120 S_CS c_CS S_AD S_HI S_LO V106 (by simp) hcs hj hpre hend (by omega : @LE.le Nat _ n0 b101) C110 C113 C116 (by omega)) hZ (tw hw 15 rfl) (tw hw 11 rfl) (by decide) (by decide)) (g := (mkF m 55 #[vI p1, vI p2, vI p3, vI p4, vI p5] [(.ref b102), (.ref b101), (.ref b101)])) rfl (by rw [hml]; rfl) (Steps.refl _) (a := b101) (argsL := [(.ref b102)]) (rest := [(.ref b101)]) (lenOf pd_2 rfl) rfl (by show 2 * 0 + _ ≤ _; exact Nat.le_of_eq rfl) (hb hby d2_55) (fun _ _ => ⟨rfl, e106, (by decide : 2 + 2 ≤ _), (by decide : 6 + 771 ≤ _)⟩)
 dsimp only [Pt.U, Pt.locs, Pt.cells, Pt.slots] at X107 l107 y107 z107 st107 hQ107
 subst l107 y107 z107
 obtain ⟨t107, kb107, rfl, N107q, K107, E107, Fv107, Fc107, gt107, tx107, V107⟩ := hQ107
 have lt107 : @LT.lt Nat _ t107 T107.heap.size := V107.lt
 have sz5_K107 := K107.1
 have N107 := Fr.app N106 N107q
 have KC121 : Keep h0 h101 [] := (Keep.refl h0 []).trans K101 (all0)
 have KC122 : Keep h0 h102 [] := KC121.trans K102 (all0)
 have KC123 : Keep h0 h104 [] := KC122.trans K104 (allS (Or.inr (by omega)) (all0))
 have KC124 : Keep h0 h106 [] := KC123.trans K106 (allS (Or.inr (by omega)) (all0))
 have KC125 : Keep h0 T107.heap [] := KC124.trans K107 (allS (Or.inr (by omega)) (all0))
 obtain ⟨fs, hr, hrun, hended, hW, hsame⟩ := X107.leave (v := some (.ref b101)) (fun h => by rw [Bd.returns] at h; cases h)
 refine ⟨_, _, pre0 _ ?_, hrun, hended, _, _, rfl, ?_, ⟨_, rfl⟩, hW, hsame.mono (by decide) (by decide)⟩
 ·skip
  show SS p e below s₁ m 0 #[vI p1, vI p2, vI p3, vI p4, vI p5] [] _
  refine XS.iloadN X0.here hx rfl (hb hby d2_0) rfl ?_
  refine XS.ifYes X0.here hx rfl (pc0 := 1) (pc' := 15) rfl (hb hby d2_1) rfl ((if0 _ _).trans (feq (by rw [hm]; decide : ¬ (p1 = (0 : Int32)))).2) (by decide) (by decide) ?_
  refine XS.iloadN X0.here hx rfl (hb hby d2_15) rfl ?_
  refine XS.iconst X0.here hx rfl (hb hby d2_16) ?_
  refine XS.icmpYes X0.here hx rfl (pc0 := 17) (pc' := 35) rfl (hb hby d2_17) rfl (feq (by rw [hm]; decide : ¬ (p1 = (1 : Int32)))).2 (by decide) (by decide) ?_
  refine XS.iloadN X0.here hx rfl (hb hby d2_35) rfl ?_
  refine XS.iconst X0.here hx rfl (hb hby d2_36) ?_
  refine XS.icmpNo X0.here hx rfl (hb hby d2_37) rfl (teq (hm : p1 = (2 : Int32))).2 ?_
  show SS p e below s₁ m 40 #[vI p1, vI p2, vI p3, vI p4, vI p5] [] _
  refine st101 _ ?_
  refine XS.dup X101.here hx rfl (hb hby d2_43) rfl rfl ?_
  refine XS.iconst X101.here hx rfl (hb hby d2_44) ?_
  show SS p e below T101 m 45 #[vI p1, vI p2, vI p3, vI p4, vI p5] [(.int 2), (.ref b101), (.ref b101)] _
  refine st102 _ ?_
  refine XS.dup X102.here hx rfl (hb hby d2_47) rfl rfl ?_
  refine XS.iconst X102.here hx rfl (hb hby d2_48) ?_
  refine XS.iloadN X102.here hx rfl (hb hby d2_49) rfl ?_
  show SS p e below T102 m 50 #[vI p1, vI p2, vI p3, vI p4, vI p5] [(.int p2), (.int 0), (.ref b102), (.ref b102), (.ref b101), (.ref b101)] _
  refine st104 _ ?_
  refine XS.dup X104.here hx rfl (hb hby d2_51) rfl rfl ?_
  refine XS.iconst X104.here hx rfl (hb hby d2_52) ?_
  refine XS.iloadN X104.here hx rfl (hb hby d2_53) rfl ?_
  show SS p e below T104 m 54 #[vI p1, vI p2, vI p3, vI p4, vI p5] [(.int p3), (.int 1), (.ref b102), (.ref b102), (.ref b101), (.ref b101)] _
  refine st106 _ ?_
  show SS p e below T106 m 55 #[vI p1, vI p2, vI p3, vI p4, vI p5] [(.ref b102), (.ref b101), (.ref b101)] _
  refine st107.trans ?_
  show SS p e below T107 m 58 #[vI p1, vI p2, vI p3, vI p4, vI p5] [(.ref b101)] _
  exact X107.areturnOut hx rfl Bd.returns rfl (hb hby d2_58) hr
 ·show Q_rmShort2U Z p1 p2 p3 p4 p5 cs0 m1 h0 n0 _ T107.heap _
  exact ⟨_, _, _, rfl, N107, KC125, (by omega), E107, Fv107, Fc107, (by omega), V107⟩
theorem d2_59 : decode cD37 59 = .ok (.iload_n 0, 1) := by decide +kernel
theorem d2_60 : decode cD37 60 = .ok (.iconst 3, 1) := by decide +kernel
theorem d2_61 : decode cD37 61 = .ok (.if_icmp .ne 26, 3) := by decide +kernel
theorem d2_64 : decode cD37 64 = .ok (.new 11, 3) := by decide +kernel
theorem d2_67 : decode cD37 67 = .ok (.dup, 1) := by decide +kernel
theorem d2_68 : decode cD37 68 = .ok (.iconst 3, 1) := by decide +kernel
theorem d2_69 : decode cD37 69 = .ok (.newarray .char, 2) := by decide +kernel
theorem d2_71 : decode cD37 71 = .ok (.dup, 1) := by decide +kernel
theorem d2_72 : decode cD37 72 = .ok (.iconst 0, 1) := by decide +kernel
theorem d2_73 : decode cD37 73 = .ok (.iload_n 1, 1) := by decide +kernel
theorem d2_74 : decode cD37 74 = .ok (.castore, 1) := by decide +kernel
theorem d2_75 : decode cD37 75 = .ok (.dup, 1) := by decide +kernel
theorem d2_76 : decode cD37 76 = .ok (.iconst 1, 1) := by decide +kernel
theorem d2_77 : decode cD37 77 = .ok (.iload_n 2, 1) := by decide +kernel
theorem d2_78 : decode cD37 78 = .ok (.castore, 1) := by decide +kernel
theorem d2_79 : decode cD37 79 = .ok (.dup, 1) := by decide +kernel
theorem d2_80 : decode cD37 80 = .ok (.iconst 2, 1) := by decide +kernel
theorem d2_81 : decode cD37 81 = .ok (.iload_n 3, 1) := by decide +kernel
theorem d2_82 : decode cD37 82 = .ok (.castore, 1) := by decide +kernel
theorem d2_83 : decode cD37 83 = .ok (.invokespecial 13, 3) := by decide +kernel
theorem d2_86 : decode cD37 86 = .ok (.areturn, 1) := by decide +kernel
theorem ef_rmShort3L (m : MethodId) (y0 : Int32) (y1 : Int32) (y2 : Int32) (y3 : Int32) (y4 : Int32) : entryFrame m #[(.int y0), (.int y1), (.int y2), (.int y3), (.int y4)] 5 = (mkF m 0 #[vI y0, vI y1, vI y2, vI y3, vI y4] []) := by first | (simp [entryFrame, mkF, argsToLocals, Value.category]; done) | rfl
def Q_rmShort3L (Z : State) (p1 : Int32) (p2 : Int32) (p3 : Int32) (p4 : Int32) (p5 : Int32) (cs : Int32) (h0 : Heap) (n0 : Nat) (v : Option Value) (h : Heap) (L : List Loc) : Prop := ∃ (x t : Addr) (kb : ClassId), v = some (.ref x) ∧ Fr n0 L ∧ Keep h0 h [] ∧ h0.size ≤ x ∧ Exa Z h x "java/lang/String" ∧ Fld Z h x "java/lang/String" "value" "[B" (.ref t) ∧ Fld Z h x "java/lang/String" "coder" "B" (.int 0) ∧ @Ne Nat t x ∧ Arv Z h t kb .byte (Int32.ofNat (([p2, p3, p4] : List Int32).map (fun c => c.toInt8.toInt32)).length) ((([p2, p3, p4] : List Int32).map (fun c => c.toInt8.toInt32)).map Value.int) (.int 0)
set_option maxRecDepth 65536 in
set_option maxHeartbeats 40000000 in
theorem rmShort3L (l : Launch) (Z : State) (a0 : Array Value) (hw : ∀ d ∈ tables_1, d.before a0 Z = true) (ws : List Jvm.Cond) (p1 : Int32) (p2 : Int32) (p3 : Int32) (p4 : Int32) (p5 : Int32) (cs : Int32) (h0 : Heap) (n0 : Nat) (O0 : Old Z n0 h0) (S_CS : SCS Z cs) (c_CS : ¬ (cs = (0 : Int32))) (hm : p1 = (3 : Int32)) (r2 : ¬ p2 < 0 ∧ ¬ (65535 : Int32) < p2) (r3 : ¬ p3 < 0 ∧ ¬ (65535 : Int32) < p3) (r4 : ¬ p4 < 0 ∧ ¬ (65535 : Int32) < p4) (hL : ∀ c ∈ ([p2, p3, p4] : List Int32), ¬ c < 0 ∧ ¬ (255 : Int32) < c) :
  MetFree l mN37 (head1 (Jvm.Cond.code mN37 method_4_code 5 (some (.object "java/lang/String")) :: ws) (Rm 6 4 800 190)) (fun a U => a = #[(.int p1), (.int p2), (.int p3), (.int p4), (.int p5)] ∧ Z.Warmed39 U.vm ∧ U.heap = h0) (fun _ _ _ _ _ => True) (fun _ U o U' => ∃ v L, o = .returned v ∧ Q_rmShort3L Z p1 p2 p3 p4 p5 cs h0 n0 v U'.heap L ∧ FrameEnd U o U' L (Rm 6 4 800 190).cells (Rm 6 4 800 190).slots) := by
 refine MetFree.of_bodySF (plainFor_of_name pn_2) hisR ?_
 intro p e s m args below meth c s₁ Bd hml0 hP hK
 obtain ⟨rfl, hZ, hh⟩ := hP
 have hx := Bd.exec
 have hby := Bd.bytes
 have hml : c.maxLocals = 5 := hml0
 have hown : s.vm.findClass "com/example/coterie/coterie/job/JobIsWellFormedKeyPinLaw" = some m.cls := findClass_of_methodNamed Bd.named
 have hnm := (name_of_methodNamed Bd.named Bd.method).1
 have X0 : Stand p l e (Rm 6 4 800 190) s m #[(.int p1), (.int p2), (.int p3), (.int p4), (.int p5)] below meth c s₁ [] 0 0 := Stand.of_body Bd
 have e0 : s₁.heap = h0 := by rw [← hh, Bd.state]; rfl
 have N0 := Fr.nil n0
 have hn0 : n0 ≤ h0.size := O0.1 ▸ O0.2.1
 have pre0 : ∀ t, SS p e below s₁ m 0 #[vI p1, vI p2, vI p3, vI p4, vI p5] [] t → Steps p.tables e below (s₁.setTop (entryFrame m #[(.int p1), (.int p2), (.int p3), (.int p4), (.int p5)] 5)) t := fun t k => castTop (ef_rmShort3L m p1 p2 p3 p4 p5) k
 have hws : ∀ d ∈ StrChars.Road.words, d.before a0 Z = true := fun d hd => hw d ((by decide +kernel : ∀ d ∈ StrChars.Road.words, d ∈ tables_1) d hd)
 obtain ⟨T101, h101, X101, e101, E101, A101, D101, -, st101⟩ := newO X0 hx hZ hown (tw hw 9 rfl) (tw hw 10 rfl) (tw hw 11 rfl) e0 (g := (mkF m 64 #[vI p1, vI p2, vI p3, vI p4, vI p5] [])) rfl (hb hby d2_64) (by decide) (by decide)
 obtain ⟨b101, g101⟩ : ∃ z, z = h0.size := ⟨_, rfl⟩
 rw [← g101] at A101 D101 st101
 have lt101 : @LT.lt Nat _ b101 h101.size := A101.lt
 have K101 : Keep h0 h101 [] := (Keep.refl _ _).ext E101
 have sz1_K101 := K101.1
 have F101_value : Fld Z h101 b101 "java/lang/String" "value" "[B" .null := D101 (Or.inr (tw hw 25 rfl)) (ty := (.array .byte)) (by decide)
 have F101_coder : Fld Z h101 b101 "java/lang/String" "coder" "B" (.int 0) := D101 (Or.inr (tw hw 26 rfl)) (ty := .byte) (by decide)
 obtain ⟨T102, h102, k102, X102, e102, E102, A102, st102⟩ := newP X101 hx hZ (tw hw 12 rfl) e101 (g := (mkF m 69 #[vI p1, vI p2, vI p3, vI p4, vI p5] [(.int 3), (.ref b101), (.ref b101)])) rfl (hb hby d2_69) rfl (by decide) (cap := 3) (by decide) (by decide) (by decide) (by decide)
 obtain ⟨b102, g102⟩ : ∃ z, z = h101.size := ⟨_, rfl⟩
 rw [← g102] at A102 st102
 have V102 : Arv Z h102 b102 k102 .char (3 : Int32) [(.int 0), (.int 0), (.int 0)] (.int 0) := (Arv.new A102 (by decide)).pad (pad_rep [] (.int 0) 3)
 have lt102 : @LT.lt Nat _ b102 h102.size := V102.lt
 have K102 : Keep h101 h102 [] := (Keep.refl _ _).ext E102
 have sz2_K102 := K102.1
 obtain ⟨cl103, Ar103, q103, S103, Nn103, H103, G103⟩ := id V102
 obtain ⟨T104, h104, X104, e104, W104, st104⟩ := stC X102 hx hZ e102 Ar103 (j := (0 : Int32)) (inb_of S103 ⟨by decide, by decide⟩) (g := (mkF m 74 #[vI p1, vI p2, vI p3, vI p4, vI p5] [(.int p2), (.int 0), (.ref b102), (.ref b102), (.ref b101), (.ref b101)])) rfl rfl (hb hby d2_74)
 rw [own_nc r2] at W104
 have V104 : Arv Z h104 b102 k102 .char (3 : Int32) [(.int p2), (.int 0), (.int 0)] (.int 0) := Arv.set Ar103 q103 S103 Nn103 H103 G103 (own_fitc r2) W104 0 rfl (Nat.le_of_ble_eq_true rfl)
 have K104 := Keep.of_wr W104
 have N104 := Fr.snoc X104 N0 (by omega : @LE.le Nat _ n0 b102)
 have sz3_K104 := K104.1
 obtain ⟨cl105, Ar105, q105, S105, Nn105, H105, G105⟩ := id V104
 obtain ⟨T106, h106, X106, e106, W106, st106⟩ := stC X104 hx hZ e104 Ar105 (j := (1 : Int32)) (inb_of S105 ⟨by decide, by decide⟩) (g := (mkF m 78 #[vI p1, vI p2, vI p3, vI p4, vI p5] [(.int p3), (.int 1), (.ref b102), (.ref b102), (.ref b101), (.ref b101)])) rfl rfl (hb hby d2_78)
 rw [own_nc r3] at W106
 have V106 : Arv Z h106 b102 k102 .char (3 : Int32) [(.int p2), (.int p3), (.int 0)] (.int 0) := Arv.set Ar105 q105 S105 Nn105 H105 G105 (own_fitc r3) W106 1 rfl (Nat.le_of_ble_eq_true rfl)
 have K106 := Keep.of_wr W106
 have N106 := Fr.snoc X106 N104 (by omega : @LE.le Nat _ n0 b102)
 have sz4_K106 := K106.1
 obtain ⟨cl107, Ar107, q107, S107, Nn107, H107, G107⟩ := id V106
 obtain ⟨T108, h108, X108, e108, W108, st108⟩ := stC X106 hx hZ e106 Ar107 (j := (2 : Int32)) (inb_of S107 ⟨by decide, by decide⟩) (g := (mkF m 82 #[vI p1, vI p2, vI p3, vI p4, vI p5] [(.int p4), (.int 2), (.ref b102), (.ref b102), (.ref b101), (.ref b101)])) rfl rfl (hb hby d2_82)
 rw [own_nc r4] at W108
 have V108 : Arv Z h108 b102 k102 .char (3 : Int32) [(.int p2), (.int p3), (.int p4)] (.int 0) := Arv.set Ar107 q107 S107 Nn107 H107 G107 (own_fitc r4) W108 2 rfl (Nat.le_of_ble_eq_true rfl)
 have K108 := Keep.of_wr W108
 have N108 := Fr.snoc X108 N106 (by omega : @LE.le Nat _ n0 b102)
 have sz5_K108 := K108.1
 have C110 := A101.keep K102
 have C111 := C110.keep K104
 have C112 := C111.keep K106
 have C113 := C112.keep K108
 have C114 := F101_value.keep K102 nin0
 have C115 := C114.keep K104 (ninS (by omega : @Ne Nat b101 b102) (nin0))
 have C116 := C115.keep K106 (ninS (by omega : @Ne Nat b101 b102) (nin0))
 have C117 := C116.keep K108 (ninS (by omega : @Ne Nat b101 b102) (nin0))
 have C118 := F101_coder.keep K102 nin0
 have C119 := C118.keep K104 (ninS (by omega : @Ne Nat b101 b102) (nin0))
 have C120 := C119.keep K106 (ninS (by omega : @Ne Nat b101 b102) (nin0))
 have C121 := C120.keep K108 (ninS (by omega : @Ne Nat b101 b102) (nin0))
 have O122 : Old Z n0 h101 := O0.keep K101 all0
 have O123 : Old Z n0 h102 := O122.keep K102 all0
 have O124 : Old Z n0 h104 := O123.keep K104 (allS (by omega) (all0))
 have O125 : Old Z n0 h106 := O124.keep K106 (allS (by omega) (all0))
 have O126 : Old Z n0 h108 := O125.keep K108 (allS (by omega) (all0))
 obtain ⟨_, _, ⟨T109, L109, k109, n109⟩, -, X109, ⟨Lc109, hQ109, l109, y109, z109⟩, st109⟩ := X108.specialBack hx (y := mN9) rfl hown (mvT hZ (tw hw 13 rfl)) (mvT hZ (tw hw 14 rfl)) (mvT hZ (tw hw 15 rfl)) (by decide) (StrChars.Road.backV (W := 1) hZ hws (kI := 4) (tw hw 10 rfl) (cs := ([p2, p3, p4] : List Int32)) (bs := ([p2, p3, p4] : List Int32).map (fun c => c.toInt8.toInt32)) (n := 3) (by omega : @LE.le Nat _ n0 b101) (by omega) C113 C117 C121 V108 (Sta.ext O126.2 S_CS) c_CS rfl rfl (by decide) (by decide) hL rfl (by decide) (by decide)) (g := (mkF m 83 #[vI p1, vI p2, vI p3, vI p4, vI p5] [(.ref b102), (.ref b101), (.ref b101)])) rfl (by rw [hml]; rfl) (Steps.refl _) (a := b101) (argsL := [(.ref b102)]) (rest := [(.ref b101)]) (lenOf pd_2 rfl) rfl (by show 2 * 0 + _ ≤ _; exact Nat.le_of_eq rfl) (hb hby d2_83) (fun _ _ => ⟨rfl, e108, (by decide : 2 + 1 ≤ _), (by decide : 7 + 3 ≤ _)⟩)
 dsimp only [Pt.U, Pt.locs, Pt.cells, Pt.slots] at X109 l109 y109 z109 st109 hQ109
 subst l109 y109 z109
 obtain ⟨rfl, N109q, K109, E109, C109, t109, kb109, ge109, gh109, tx109, Vf109, Av109⟩ := hQ109
 have lt109 : @LT.lt Nat _ t109 T109.heap.size := Av109.lt
 have sz6_K109 := K109.1
 have N109 := Fr.app N108 N109q
 have KC127 : Keep h0 h101 [] := (Keep.refl h0 []).trans K101 (all0)
 have KC128 : Keep h0 h102 [] := KC127.trans K102 (all0)
 have KC129 : Keep h0 h104 [] := KC128.trans K104 (allS (Or.inr (by omega)) (all0))
 have KC130 : Keep h0 h106 [] := KC129.trans K106 (allS (Or.inr (by omega)) (all0))
 have KC131 : Keep h0 h108 [] := KC130.trans K108 (allS (Or.inr (by omega)) (all0))
 have KC132 : Keep h0 T109.heap [] := KC131.trans K109 (allS (Or.inr (by omega)) (all0))
 obtain ⟨fs, hr, hrun, hended, hW, hsame⟩ := X109.leave (v := some (.ref b101)) (fun h => by rw [Bd.returns] at h; cases h)
 refine ⟨_, _, pre0 _ ?_, hrun, hended, _, _, rfl, ?_, ⟨_, rfl⟩, hW, hsame.mono (by decide) (by decide)⟩
 ·skip
  show SS p e below s₁ m 0 #[vI p1, vI p2, vI p3, vI p4, vI p5] [] _
  refine XS.iloadN X0.here hx rfl (hb hby d2_0) rfl ?_
  refine XS.ifYes X0.here hx rfl (pc0 := 1) (pc' := 15) rfl (hb hby d2_1) rfl ((if0 _ _).trans (feq (by rw [hm]; decide : ¬ (p1 = (0 : Int32)))).2) (by decide) (by decide) ?_
  refine XS.iloadN X0.here hx rfl (hb hby d2_15) rfl ?_
  refine XS.iconst X0.here hx rfl (hb hby d2_16) ?_
  refine XS.icmpYes X0.here hx rfl (pc0 := 17) (pc' := 35) rfl (hb hby d2_17) rfl (feq (by rw [hm]; decide : ¬ (p1 = (1 : Int32)))).2 (by decide) (by decide) ?_
  refine XS.iloadN X0.here hx rfl (hb hby d2_35) rfl ?_
  refine XS.iconst X0.here hx rfl (hb hby d2_36) ?_
  refine XS.icmpYes X0.here hx rfl (pc0 := 37) (pc' := 59) rfl (hb hby d2_37) rfl (feq (by rw [hm]; decide : ¬ (p1 = (2 : Int32)))).2 (by decide) (by decide) ?_
  refine XS.iloadN X0.here hx rfl (hb hby d2_59) rfl ?_
  refine XS.iconst X0.here hx rfl (hb hby d2_60) ?_
  show SS p e below s₁ m 61 #[vI p1, vI p2, vI p3, vI p4, vI p5] [(.int 3), (.int p1)] _
  refine XS.icmpNo X0.here hx rfl (hb hby d2_61) rfl (teq (hm : p1 = (3 : Int32))).2 ?_
  show SS p e below s₁ m 64 #[vI p1, vI p2, vI p3, vI p4, vI p5] [] _
  refine st101 _ ?_
  refine XS.dup X101.here hx rfl (hb hby d2_67) rfl rfl ?_
  refine XS.iconst X101.here hx rfl (hb hby d2_68) ?_
  show SS p e below T101 m 69 #[vI p1, vI p2, vI p3, vI p4, vI p5] [(.int 3), (.ref b101), (.ref b101)] _
  refine st102 _ ?_
  refine XS.dup X102.here hx rfl (hb hby d2_71) rfl rfl ?_
  refine XS.iconst X102.here hx rfl (hb hby d2_72) ?_
  refine XS.iloadN X102.here hx rfl (hb hby d2_73) rfl ?_
  show SS p e below T102 m 74 #[vI p1, vI p2, vI p3, vI p4, vI p5] [(.int p2), (.int 0), (.ref b102), (.ref b102), (.ref b101), (.ref b101)] _
  refine st104 _ ?_
  refine XS.dup X104.here hx rfl (hb hby d2_75) rfl rfl ?_
  refine XS.iconst X104.here hx rfl (hb hby d2_76) ?_
  refine XS.iloadN X104.here hx rfl (hb hby d2_77) rfl ?_
  show SS p e below T104 m 78 #[vI p1, vI p2, vI p3, vI p4, vI p5] [(.int p3), (.int 1), (.ref b102), (.ref b102), (.ref b101), (.ref b101)] _
  refine st106 _ ?_
  refine XS.dup X106.here hx rfl (hb hby d2_79) rfl rfl ?_
  refine XS.iconst X106.here hx rfl (hb hby d2_80) ?_
  refine XS.iloadN X106.here hx rfl (hb hby d2_81) rfl ?_
  show SS p e below T106 m 82 #[vI p1, vI p2, vI p3, vI p4, vI p5] [(.int p4), (.int 2), (.ref b102), (.ref b102), (.ref b101), (.ref b101)] _
  refine st108 _ ?_
  show SS p e below T108 m 83 #[vI p1, vI p2, vI p3, vI p4, vI p5] [(.ref b102), (.ref b101), (.ref b101)] _
  refine st109.trans ?_
  show SS p e below T109 m 86 #[vI p1, vI p2, vI p3, vI p4, vI p5] [(.ref b101)] _
  exact X109.areturnOut hx rfl Bd.returns rfl (hb hby d2_86) hr
 ·show Q_rmShort3L Z p1 p2 p3 p4 p5 cs h0 n0 _ T109.heap _
  exact ⟨_, _, _, rfl, N109, KC132, (by omega), E109, Vf109, C109, (by omega), Av109⟩
theorem ef_rmShort3U (m : MethodId) (y0 : Int32) (y1 : Int32) (y2 : Int32) (y3 : Int32) (y4 : Int32) : entryFrame m #[(.int y0), (.int y1), (.int y2), (.int y3), (.int y4)] 5 = (mkF m 0 #[vI y0, vI y1, vI y2, vI y3, vI y4] []) := by first | (simp [entryFrame, mkF, argsToLocals, Value.category]; done) | rfl
def Q_rmShort3U (Z : State) (p1 : Int32) (p2 : Int32) (p3 : Int32) (p4 : Int32) (p5 : Int32) (cs0 : Int32) (m1 : Nat) (h0 : Heap) (n0 : Nat) (v : Option Value) (h : Heap) (L : List Loc) : Prop := ∃ (x t : Addr) (kb : ClassId), v = some (.ref x) ∧ Fr n0 L ∧ Keep h0 h [] ∧ h0.size ≤ x ∧ Exa Z h x "java/lang/String" ∧ Fld Z h x "java/lang/String" "value" "[B" (.ref t) ∧ Fld Z h x "java/lang/String" "coder" "B" (.int 1) ∧ @Ne Nat t x ∧ Arv Z h t kb .byte (Int32.ofNat (2 * ([p2, p3, p4] : List Int32).length)) (u16 ([p2, p3, p4] : List Int32)) (.int 0)
set_option maxRecDepth 65536 in
set_option maxHeartbeats 40000000 in
theorem rmShort3U (l : Launch) (Z : State) (a0 : Array Value) (hw : ∀ d ∈ tables_1, d.before a0 Z = true) (ws : List Jvm.Cond) (p1 : Int32) (p2 : Int32) (p3 : Int32) (p4 : Int32) (p5 : Int32) (cs0 : Int32) (m1 : Nat) (h0 : Heap) (n0 : Nat) (O0 : Old Z n0 h0) (S_CS : SCS Z cs0) (c_CS : ¬ (cs0 = (0 : Int32))) (S_AD : SAD Z) (S_HI : SHI Z) (S_LO : SLO Z) (hm : p1 = (3 : Int32)) (r2 : ¬ p2 < 0 ∧ ¬ (65535 : Int32) < p2) (r3 : ¬ p3 < 0 ∧ ¬ (65535 : Int32) < p3) (r4 : ¬ p4 < 0 ∧ ¬ (65535 : Int32) < p4) (hcs : ∀ c ∈ ([p2, p3, p4] : List Int32), ¬ c < 0 ∧ ¬ (65535 : Int32) < c) (hj : m1 < ([p2, p3, p4] : List Int32).length) (hpre : ∀ j, j < m1 → ¬ ((255 : Int32) < ([p2, p3, p4] : List Int32).getD j 0)) (hend : (255 : Int32) < (([p2, p3, p4] : List Int32).getD m1 0)) :
  MetFree l mN37 (head1 (Jvm.Cond.code mN37 method_4_code 5 (some (.object "java/lang/String")) :: ws) (Rm 6 4 800 190)) (fun a U => a = #[(.int p1), (.int p2), (.int p3), (.int p4), (.int p5)] ∧ Z.Warmed39 U.vm ∧ U.heap = h0) (fun _ _ _ _ _ => True) (fun _ U o U' => ∃ v L, o = .returned v ∧ Q_rmShort3U Z p1 p2 p3 p4 p5 cs0 m1 h0 n0 v U'.heap L ∧ FrameEnd U o U' L (Rm 6 4 800 190).cells (Rm 6 4 800 190).slots) := by
 refine MetFree.of_bodySF (plainFor_of_name pn_2) hisR ?_
 intro p e s m args below meth c s₁ Bd hml0 hP hK
 obtain ⟨rfl, hZ, hh⟩ := hP
 have hx := Bd.exec
 have hby := Bd.bytes
 have hml : c.maxLocals = 5 := hml0
 have hown : s.vm.findClass "com/example/coterie/coterie/job/JobIsWellFormedKeyPinLaw" = some m.cls := findClass_of_methodNamed Bd.named
 have hnm := (name_of_methodNamed Bd.named Bd.method).1
 have X0 : Stand p l e (Rm 6 4 800 190) s m #[(.int p1), (.int p2), (.int p3), (.int p4), (.int p5)] below meth c s₁ [] 0 0 := Stand.of_body Bd
 have e0 : s₁.heap = h0 := by rw [← hh, Bd.state]; rfl
 have N0 := Fr.nil n0
 have hn0 : n0 ≤ h0.size := O0.1 ▸ O0.2.1
 have pre0 : ∀ t, SS p e below s₁ m 0 #[vI p1, vI p2, vI p3, vI p4, vI p5] [] t → Steps p.tables e below (s₁.setTop (entryFrame m #[(.int p1), (.int p2), (.int p3), (.int p4), (.int p5)] 5)) t := fun t k => castTop (ef_rmShort3U m p1 p2 p3 p4 p5) k
 obtain ⟨T101, h101, X101, e101, E101, A101, D101, -, st101⟩ := newO X0 hx hZ hown (tw hw 9 rfl) (tw hw 10 rfl) (tw hw 11 rfl) e0 (g := (mkF m 64 #[vI p1, vI p2, vI p3, vI p4, vI p5] [])) rfl (hb hby d2_64) (by decide) (by decide)
 obtain ⟨b101, g101⟩ : ∃ z, z = h0.size := ⟨_, rfl⟩
 rw [← g101] at A101 D101 st101
 have lt101 : @LT.lt Nat _ b101 h101.size := A101.lt
 have K101 : Keep h0 h101 [] := (Keep.refl _ _).ext E101
 have sz1_K101 := K101.1
 have F101_value : Fld Z h101 b101 "java/lang/String" "value" "[B" .null := D101 (Or.inr (tw hw 25 rfl)) (ty := (.array .byte)) (by decide)
 have F101_coder : Fld Z h101 b101 "java/lang/String" "coder" "B" (.int 0) := D101 (Or.inr (tw hw 26 rfl)) (ty := .byte) (by decide)
 obtain ⟨T102, h102, k102, X102, e102, E102, A102, st102⟩ := newP X101 hx hZ (tw hw 12 rfl) e101 (g := (mkF m 69 #[vI p1, vI p2, vI p3, vI p4, vI p5] [(.int 3), (.ref b101), (.ref b101)])) rfl (hb hby d2_69) rfl (by decide) (cap := 3) (by decide) (by decide) (by decide) (by decide)
 obtain ⟨b102, g102⟩ : ∃ z, z = h101.size := ⟨_, rfl⟩
 rw [← g102] at A102 st102
 have V102 : Arv Z h102 b102 k102 .char (3 : Int32) [(.int 0), (.int 0), (.int 0)] (.int 0) := (Arv.new A102 (by decide)).pad (pad_rep [] (.int 0) 3)
 have lt102 : @LT.lt Nat _ b102 h102.size := V102.lt
 have K102 : Keep h101 h102 [] := (Keep.refl _ _).ext E102
 have sz2_K102 := K102.1
 obtain ⟨cl103, Ar103, q103, S103, Nn103, H103, G103⟩ := id V102
 obtain ⟨T104, h104, X104, e104, W104, st104⟩ := stC X102 hx hZ e102 Ar103 (j := (0 : Int32)) (inb_of S103 ⟨by decide, by decide⟩) (g := (mkF m 74 #[vI p1, vI p2, vI p3, vI p4, vI p5] [(.int p2), (.int 0), (.ref b102), (.ref b102), (.ref b101), (.ref b101)])) rfl rfl (hb hby d2_74)
 rw [own_nc r2] at W104
 have V104 : Arv Z h104 b102 k102 .char (3 : Int32) [(.int p2), (.int 0), (.int 0)] (.int 0) := Arv.set Ar103 q103 S103 Nn103 H103 G103 (own_fitc r2) W104 0 rfl (Nat.le_of_ble_eq_true rfl)
 have K104 := Keep.of_wr W104
 have N104 := Fr.snoc X104 N0 (by omega : @LE.le Nat _ n0 b102)
 have sz3_K104 := K104.1
 obtain ⟨cl105, Ar105, q105, S105, Nn105, H105, G105⟩ := id V104
 obtain ⟨T106, h106, X106, e106, W106, st106⟩ := stC X104 hx hZ e104 Ar105 (j := (1 : Int32)) (inb_of S105 ⟨by decide, by decide⟩) (g := (mkF m 78 #[vI p1, vI p2, vI p3, vI p4, vI p5] [(.int p3), (.int 1), (.ref b102), (.ref b102), (.ref b101), (.ref b101)])) rfl rfl (hb hby d2_78)
 rw [own_nc r3] at W106
 have V106 : Arv Z h106 b102 k102 .char (3 : Int32) [(.int p2), (.int p3), (.int 0)] (.int 0) := Arv.set Ar105 q105 S105 Nn105 H105 G105 (own_fitc r3) W106 1 rfl (Nat.le_of_ble_eq_true rfl)
 have K106 := Keep.of_wr W106
 have N106 := Fr.snoc X106 N104 (by omega : @LE.le Nat _ n0 b102)
 have sz4_K106 := K106.1
 obtain ⟨cl107, Ar107, q107, S107, Nn107, H107, G107⟩ := id V106
 obtain ⟨T108, h108, X108, e108, W108, st108⟩ := stC X106 hx hZ e106 Ar107 (j := (2 : Int32)) (inb_of S107 ⟨by decide, by decide⟩) (g := (mkF m 82 #[vI p1, vI p2, vI p3, vI p4, vI p5] [(.int p4), (.int 2), (.ref b102), (.ref b102), (.ref b101), (.ref b101)])) rfl rfl (hb hby d2_82)
 rw [own_nc r4] at W108
 have V108 : Arv Z h108 b102 k102 .char (3 : Int32) [(.int p2), (.int p3), (.int p4)] (.int 0) := Arv.set Ar107 q107 S107 Nn107 H107 G107 (own_fitc r4) W108 2 rfl (Nat.le_of_ble_eq_true rfl)
 have K108 := Keep.of_wr W108
 have N108 := Fr.snoc X108 N106 (by omega : @LE.le Nat _ n0 b102)
 have sz5_K108 := K108.1
 have C110 := A101.keep K102
 have C111 := C110.keep K104
 have C112 := C111.keep K106
 have C113 := C112.keep K108
 have C114 := F101_value.keep K102 nin0
 have C115 := C114.keep K104 (ninS (by omega : @Ne Nat b101 b102) (nin0))
 have C116 := C115.keep K106 (ninS (by omega : @Ne Nat b101 b102) (nin0))
 have C117 := C116.keep K108 (ninS (by omega : @Ne Nat b101 b102) (nin0))
 have C118 := F101_coder.keep K102 nin0
 have C119 := C118.keep K104 (ninS (by omega : @Ne Nat b101 b102) (nin0))
 have C120 := C119.keep K106 (ninS (by omega : @Ne Nat b101 b102) (nin0))
 have C121 := C120.keep K108 (ninS (by omega : @Ne Nat b101 b102) (nin0))
 have O122 : Old Z n0 h101 := O0.keep K101 all0
 have O123 : Old Z n0 h102 := O122.keep K102 all0
 have O124 : Old Z n0 h104 := O123.keep K104 (allS (by omega) (all0))
 have O125 : Old Z n0 h106 := O124.keep K106 (allS (by omega) (all0))
 have O126 : Old Z n0 h108 := O125.keep K108 (allS (by omega) (all0))
 obtain ⟨_, _, ⟨T109, L109, k109, n109⟩, -, X109, ⟨Lc109, hQ109, l109, y109, z109⟩, st109⟩ := X108.specialBack hx (y := mN9) rfl hown (mvT hZ (tw hw 13 rfl)) (mvT hZ (tw hw 14 rfl)) (mvT hZ (tw hw 15 rfl)) (by decide) (backOf (W := 1) (rmInit1U l Z a0 hw [] b101 b102 ([p2, p3, p4] : List Int32) k102 (.int 0) m1 cs0 h108 n0 O126 S_CS c_CS S_AD S_HI S_LO V108 (by simp) hcs hj hpre hend (by omega : @LE.le Nat _ n0 b101) C113 C117 C121 (by omega)) hZ (tw hw 15 rfl) (tw hw 11 rfl) (by decide) (by decide)) (g := (mkF m 83 #[vI p1, vI p2, vI p3, vI p4, vI p5] [(.ref b102), (.ref b101), (.ref b101)])) rfl (by rw [hml]; rfl) (Steps.refl _) (a := b101) (argsL := [(.ref b102)]) (rest := [(.ref b101)]) (lenOf pd_2 rfl) rfl (by show 2 * 0 + _ ≤ _; exact Nat.le_of_eq rfl) (hb hby d2_83) (fun _ _ => ⟨rfl, e108, (by decide : 2 + 2 ≤ _), (by decide : 7 + 771 ≤ _)⟩)
 dsimp only [Pt.U, Pt.locs, Pt.cells, Pt.slots] at X109 l109 y109 z109 st109 hQ109
 subst l109 y109 z109
 obtain ⟨t109, kb109, rfl, N109q, K109, E109, Fv109, Fc109, gt109, tx109, V109⟩ := hQ109
 have lt109 : @LT.lt Nat _ t109 T109.heap.size := V109.lt
 have sz6_K109 := K109.1
 have N109 := Fr.app N108 N109q
 have KC127 : Keep h0 h101 [] := (Keep.refl h0 []).trans K101 (all0)
 have KC128 : Keep h0 h102 [] := KC127.trans K102 (all0)
 have KC129 : Keep h0 h104 [] := KC128.trans K104 (allS (Or.inr (by omega)) (all0))
 have KC130 : Keep h0 h106 [] := KC129.trans K106 (allS (Or.inr (by omega)) (all0))
 have KC131 : Keep h0 h108 [] := KC130.trans K108 (allS (Or.inr (by omega)) (all0))
 have KC132 : Keep h0 T109.heap [] := KC131.trans K109 (allS (Or.inr (by omega)) (all0))
 obtain ⟨fs, hr, hrun, hended, hW, hsame⟩ := X109.leave (v := some (.ref b101)) (fun h => by rw [Bd.returns] at h; cases h)
 refine ⟨_, _, pre0 _ ?_, hrun, hended, _, _, rfl, ?_, ⟨_, rfl⟩, hW, hsame.mono (by decide) (by decide)⟩
 ·skip
  show SS p e below s₁ m 0 #[vI p1, vI p2, vI p3, vI p4, vI p5] [] _
  refine XS.iloadN X0.here hx rfl (hb hby d2_0) rfl ?_
  refine XS.ifYes X0.here hx rfl (pc0 := 1) (pc' := 15) rfl (hb hby d2_1) rfl ((if0 _ _).trans (feq (by rw [hm]; decide : ¬ (p1 = (0 : Int32)))).2) (by decide) (by decide) ?_
  refine XS.iloadN X0.here hx rfl (hb hby d2_15) rfl ?_
  refine XS.iconst X0.here hx rfl (hb hby d2_16) ?_
  refine XS.icmpYes X0.here hx rfl (pc0 := 17) (pc' := 35) rfl (hb hby d2_17) rfl (feq (by rw [hm]; decide : ¬ (p1 = (1 : Int32)))).2 (by decide) (by decide) ?_
  refine XS.iloadN X0.here hx rfl (hb hby d2_35) rfl ?_
  refine XS.iconst X0.here hx rfl (hb hby d2_36) ?_
  refine XS.icmpYes X0.here hx rfl (pc0 := 37) (pc' := 59) rfl (hb hby d2_37) rfl (feq (by rw [hm]; decide : ¬ (p1 = (2 : Int32)))).2 (by decide) (by decide) ?_
  refine XS.iloadN X0.here hx rfl (hb hby d2_59) rfl ?_
  refine XS.iconst X0.here hx rfl (hb hby d2_60) ?_
  show SS p e below s₁ m 61 #[vI p1, vI p2, vI p3, vI p4, vI p5] [(.int 3), (.int p1)] _
  refine XS.icmpNo X0.here hx rfl (hb hby d2_61) rfl (teq (hm : p1 = (3 : Int32))).2 ?_
  show SS p e below s₁ m 64 #[vI p1, vI p2, vI p3, vI p4, vI p5] [] _
  refine st101 _ ?_
  refine XS.dup X101.here hx rfl (hb hby d2_67) rfl rfl ?_
  refine XS.iconst X101.here hx rfl (hb hby d2_68) ?_
  show SS p e below T101 m 69 #[vI p1, vI p2, vI p3, vI p4, vI p5] [(.int 3), (.ref b101), (.ref b101)] _
  refine st102 _ ?_
  refine XS.dup X102.here hx rfl (hb hby d2_71) rfl rfl ?_
  refine XS.iconst X102.here hx rfl (hb hby d2_72) ?_
  refine XS.iloadN X102.here hx rfl (hb hby d2_73) rfl ?_
  show SS p e below T102 m 74 #[vI p1, vI p2, vI p3, vI p4, vI p5] [(.int p2), (.int 0), (.ref b102), (.ref b102), (.ref b101), (.ref b101)] _
  refine st104 _ ?_
  refine XS.dup X104.here hx rfl (hb hby d2_75) rfl rfl ?_
  refine XS.iconst X104.here hx rfl (hb hby d2_76) ?_
  refine XS.iloadN X104.here hx rfl (hb hby d2_77) rfl ?_
  show SS p e below T104 m 78 #[vI p1, vI p2, vI p3, vI p4, vI p5] [(.int p3), (.int 1), (.ref b102), (.ref b102), (.ref b101), (.ref b101)] _
  refine st106 _ ?_
  refine XS.dup X106.here hx rfl (hb hby d2_79) rfl rfl ?_
  refine XS.iconst X106.here hx rfl (hb hby d2_80) ?_
  refine XS.iloadN X106.here hx rfl (hb hby d2_81) rfl ?_
  show SS p e below T106 m 82 #[vI p1, vI p2, vI p3, vI p4, vI p5] [(.int p4), (.int 2), (.ref b102), (.ref b102), (.ref b101), (.ref b101)] _
  refine st108 _ ?_
  show SS p e below T108 m 83 #[vI p1, vI p2, vI p3, vI p4, vI p5] [(.ref b102), (.ref b101), (.ref b101)] _
  refine st109.trans ?_
  show SS p e below T109 m 86 #[vI p1, vI p2, vI p3, vI p4, vI p5] [(.ref b101)] _
  exact X109.areturnOut hx rfl Bd.returns rfl (hb hby d2_86) hr
 ·show Q_rmShort3U Z p1 p2 p3 p4 p5 cs0 m1 h0 n0 _ T109.heap _
  exact ⟨_, _, _, rfl, N109, KC132, (by omega), E109, Fv109, Fc109, (by omega), V109⟩
theorem d2_87 : decode cD37 87 = .ok (.new 11, 3) := by decide +kernel
theorem d2_90 : decode cD37 90 = .ok (.dup, 1) := by decide +kernel
theorem d2_91 : decode cD37 91 = .ok (.iconst 4, 1) := by decide +kernel
theorem d2_92 : decode cD37 92 = .ok (.newarray .char, 2) := by decide +kernel
theorem d2_94 : decode cD37 94 = .ok (.dup, 1) := by decide +kernel
theorem d2_95 : decode cD37 95 = .ok (.iconst 0, 1) := by decide +kernel
theorem d2_96 : decode cD37 96 = .ok (.iload_n 1, 1) := by decide +kernel
theorem d2_97 : decode cD37 97 = .ok (.castore, 1) := by decide +kernel
theorem d2_98 : decode cD37 98 = .ok (.dup, 1) := by decide +kernel
theorem d2_99 : decode cD37 99 = .ok (.iconst 1, 1) := by decide +kernel
theorem d2_100 : decode cD37 100 = .ok (.iload_n 2, 1) := by decide +kernel
theorem d2_101 : decode cD37 101 = .ok (.castore, 1) := by decide +kernel
theorem d2_102 : decode cD37 102 = .ok (.dup, 1) := by decide +kernel
theorem d2_103 : decode cD37 103 = .ok (.iconst 2, 1) := by decide +kernel
theorem d2_104 : decode cD37 104 = .ok (.iload_n 3, 1) := by decide +kernel
theorem d2_105 : decode cD37 105 = .ok (.castore, 1) := by decide +kernel
theorem d2_106 : decode cD37 106 = .ok (.dup, 1) := by decide +kernel
theorem d2_107 : decode cD37 107 = .ok (.iconst 3, 1) := by decide +kernel
theorem d2_108 : decode cD37 108 = .ok (.iload 4, 2) := by decide +kernel
theorem d2_110 : decode cD37 110 = .ok (.castore, 1) := by decide +kernel
theorem d2_111 : decode cD37 111 = .ok (.invokespecial 13, 3) := by decide +kernel
theorem d2_114 : decode cD37 114 = .ok (.areturn, 1) := by decide +kernel
theorem ef_rmShort4L (m : MethodId) (y0 : Int32) (y1 : Int32) (y2 : Int32) (y3 : Int32) (y4 : Int32) : entryFrame m #[(.int y0), (.int y1), (.int y2), (.int y3), (.int y4)] 5 = (mkF m 0 #[vI y0, vI y1, vI y2, vI y3, vI y4] []) := by first | (simp [entryFrame, mkF, argsToLocals, Value.category]; done) | rfl
def Q_rmShort4L (Z : State) (p1 : Int32) (p2 : Int32) (p3 : Int32) (p4 : Int32) (p5 : Int32) (cs : Int32) (h0 : Heap) (n0 : Nat) (v : Option Value) (h : Heap) (L : List Loc) : Prop := ∃ (x t : Addr) (kb : ClassId), v = some (.ref x) ∧ Fr n0 L ∧ Keep h0 h [] ∧ h0.size ≤ x ∧ Exa Z h x "java/lang/String" ∧ Fld Z h x "java/lang/String" "value" "[B" (.ref t) ∧ Fld Z h x "java/lang/String" "coder" "B" (.int 0) ∧ @Ne Nat t x ∧ Arv Z h t kb .byte (Int32.ofNat (([p2, p3, p4, p5] : List Int32).map (fun c => c.toInt8.toInt32)).length) ((([p2, p3, p4, p5] : List Int32).map (fun c => c.toInt8.toInt32)).map Value.int) (.int 0)
set_option maxRecDepth 65536 in
set_option maxHeartbeats 40000000 in
theorem rmShort4L (l : Launch) (Z : State) (a0 : Array Value) (hw : ∀ d ∈ tables_1, d.before a0 Z = true) (ws : List Jvm.Cond) (p1 : Int32) (p2 : Int32) (p3 : Int32) (p4 : Int32) (p5 : Int32) (cs : Int32) (h0 : Heap) (n0 : Nat) (O0 : Old Z n0 h0) (S_CS : SCS Z cs) (c_CS : ¬ (cs = (0 : Int32))) (hm : p1 = (4 : Int32)) (r2 : ¬ p2 < 0 ∧ ¬ (65535 : Int32) < p2) (r3 : ¬ p3 < 0 ∧ ¬ (65535 : Int32) < p3) (r4 : ¬ p4 < 0 ∧ ¬ (65535 : Int32) < p4) (r5 : ¬ p5 < 0 ∧ ¬ (65535 : Int32) < p5) (hL : ∀ c ∈ ([p2, p3, p4, p5] : List Int32), ¬ c < 0 ∧ ¬ (255 : Int32) < c) :
  MetFree l mN37 (head1 (Jvm.Cond.code mN37 method_4_code 5 (some (.object "java/lang/String")) :: ws) (Rm 6 4 800 190)) (fun a U => a = #[(.int p1), (.int p2), (.int p3), (.int p4), (.int p5)] ∧ Z.Warmed39 U.vm ∧ U.heap = h0) (fun _ _ _ _ _ => True) (fun _ U o U' => ∃ v L, o = .returned v ∧ Q_rmShort4L Z p1 p2 p3 p4 p5 cs h0 n0 v U'.heap L ∧ FrameEnd U o U' L (Rm 6 4 800 190).cells (Rm 6 4 800 190).slots) := by
 refine MetFree.of_bodySF (plainFor_of_name pn_2) hisR ?_
 intro p e s m args below meth c s₁ Bd hml0 hP hK
 obtain ⟨rfl, hZ, hh⟩ := hP
 have hx := Bd.exec
 have hby := Bd.bytes
 have hml : c.maxLocals = 5 := hml0
 have hown : s.vm.findClass "com/example/coterie/coterie/job/JobIsWellFormedKeyPinLaw" = some m.cls := findClass_of_methodNamed Bd.named
 have hnm := (name_of_methodNamed Bd.named Bd.method).1
 have X0 : Stand p l e (Rm 6 4 800 190) s m #[(.int p1), (.int p2), (.int p3), (.int p4), (.int p5)] below meth c s₁ [] 0 0 := Stand.of_body Bd
 have e0 : s₁.heap = h0 := by rw [← hh, Bd.state]; rfl
 have N0 := Fr.nil n0
 have hn0 : n0 ≤ h0.size := O0.1 ▸ O0.2.1
 have pre0 : ∀ t, SS p e below s₁ m 0 #[vI p1, vI p2, vI p3, vI p4, vI p5] [] t → Steps p.tables e below (s₁.setTop (entryFrame m #[(.int p1), (.int p2), (.int p3), (.int p4), (.int p5)] 5)) t := fun t k => castTop (ef_rmShort4L m p1 p2 p3 p4 p5) k
 have hws : ∀ d ∈ StrChars.Road.words, d.before a0 Z = true := fun d hd => hw d ((by decide +kernel : ∀ d ∈ StrChars.Road.words, d ∈ tables_1) d hd)
 obtain ⟨T101, h101, X101, e101, E101, A101, D101, -, st101⟩ := newO X0 hx hZ hown (tw hw 9 rfl) (tw hw 10 rfl) (tw hw 11 rfl) e0 (g := (mkF m 87 #[vI p1, vI p2, vI p3, vI p4, vI p5] [])) rfl (hb hby d2_87) (by decide) (by decide)
 obtain ⟨b101, g101⟩ : ∃ z, z = h0.size := ⟨_, rfl⟩
 rw [← g101] at A101 D101 st101
 have lt101 : @LT.lt Nat _ b101 h101.size := A101.lt
 have K101 : Keep h0 h101 [] := (Keep.refl _ _).ext E101
 have sz1_K101 := K101.1
 have F101_value : Fld Z h101 b101 "java/lang/String" "value" "[B" .null := D101 (Or.inr (tw hw 25 rfl)) (ty := (.array .byte)) (by decide)
 have F101_coder : Fld Z h101 b101 "java/lang/String" "coder" "B" (.int 0) := D101 (Or.inr (tw hw 26 rfl)) (ty := .byte) (by decide)
 obtain ⟨T102, h102, k102, X102, e102, E102, A102, st102⟩ := newP X101 hx hZ (tw hw 12 rfl) e101 (g := (mkF m 92 #[vI p1, vI p2, vI p3, vI p4, vI p5] [(.int 4), (.ref b101), (.ref b101)])) rfl (hb hby d2_92) rfl (by decide) (cap := 4) (by decide) (by decide) (by decide) (by decide)
 obtain ⟨b102, g102⟩ : ∃ z, z = h101.size := ⟨_, rfl⟩
 rw [← g102] at A102 st102
 have V102 : Arv Z h102 b102 k102 .char (4 : Int32) [(.int 0), (.int 0), (.int 0), (.int 0)] (.int 0) := (Arv.new A102 (by decide)).pad (pad_rep [] (.int 0) 4)
 have lt102 : @LT.lt Nat _ b102 h102.size := V102.lt
 have K102 : Keep h101 h102 [] := (Keep.refl _ _).ext E102
 have sz2_K102 := K102.1
 obtain ⟨cl103, Ar103, q103, S103, Nn103, H103, G103⟩ := id V102
 obtain ⟨T104, h104, X104, e104, W104, st104⟩ := stC X102 hx hZ e102 Ar103 (j := (0 : Int32)) (inb_of S103 ⟨by decide, by decide⟩) (g := (mkF m 97 #[vI p1, vI p2, vI p3, vI p4, vI p5] [(.int p2), (.int 0), (.ref b102), (.ref b102), (.ref b101), (.ref b101)])) rfl rfl (hb hby d2_97)
 rw [own_nc r2] at W104
 have V104 : Arv Z h104 b102 k102 .char (4 : Int32) [(.int p2), (.int 0), (.int 0), (.int 0)] (.int 0) := Arv.set Ar103 q103 S103 Nn103 H103 G103 (own_fitc r2) W104 0 rfl (Nat.le_of_ble_eq_true rfl)
 have K104 := Keep.of_wr W104
 have N104 := Fr.snoc X104 N0 (by omega : @LE.le Nat _ n0 b102)
 have sz3_K104 := K104.1
 obtain ⟨cl105, Ar105, q105, S105, Nn105, H105, G105⟩ := id V104
 obtain ⟨T106, h106, X106, e106, W106, st106⟩ := stC X104 hx hZ e104 Ar105 (j := (1 : Int32)) (inb_of S105 ⟨by decide, by decide⟩) (g := (mkF m 101 #[vI p1, vI p2, vI p3, vI p4, vI p5] [(.int p3), (.int 1), (.ref b102), (.ref b102), (.ref b101), (.ref b101)])) rfl rfl (hb hby d2_101)
 rw [own_nc r3] at W106
 have V106 : Arv Z h106 b102 k102 .char (4 : Int32) [(.int p2), (.int p3), (.int 0), (.int 0)] (.int 0) := Arv.set Ar105 q105 S105 Nn105 H105 G105 (own_fitc r3) W106 1 rfl (Nat.le_of_ble_eq_true rfl)
 have K106 := Keep.of_wr W106
 have N106 := Fr.snoc X106 N104 (by omega : @LE.le Nat _ n0 b102)
 have sz4_K106 := K106.1
 obtain ⟨cl107, Ar107, q107, S107, Nn107, H107, G107⟩ := id V106
 obtain ⟨T108, h108, X108, e108, W108, st108⟩ := stC X106 hx hZ e106 Ar107 (j := (2 : Int32)) (inb_of S107 ⟨by decide, by decide⟩) (g := (mkF m 105 #[vI p1, vI p2, vI p3, vI p4, vI p5] [(.int p4), (.int 2), (.ref b102), (.ref b102), (.ref b101), (.ref b101)])) rfl rfl (hb hby d2_105)
 rw [own_nc r4] at W108
 have V108 : Arv Z h108 b102 k102 .char (4 : Int32) [(.int p2), (.int p3), (.int p4), (.int 0)] (.int 0) := Arv.set Ar107 q107 S107 Nn107 H107 G107 (own_fitc r4) W108 2 rfl (Nat.le_of_ble_eq_true rfl)
 have K108 := Keep.of_wr W108
 have N108 := Fr.snoc X108 N106 (by omega : @LE.le Nat _ n0 b102)
 have sz5_K108 := K108.1
 obtain ⟨cl109, Ar109, q109, S109, Nn109, H109, G109⟩ := id V108
 obtain ⟨T110, h110, X110, e110, W110, st110⟩ := stC X108 hx hZ e108 Ar109 (j := (3 : Int32)) (inb_of S109 ⟨by decide, by decide⟩) (g := (mkF m 110 #[vI p1, vI p2, vI p3, vI p4, vI p5] [(.int p5), (.int 3), (.ref b102), (.ref b102), (.ref b101), (.ref b101)])) rfl rfl (hb hby d2_110)
 rw [own_nc r5] at W110
 have V110 : Arv Z h110 b102 k102 .char (4 : Int32) [(.int p2), (.int p3), (.int p4), (.int p5)] (.int 0) := Arv.set Ar109 q109 S109 Nn109 H109 G109 (own_fitc r5) W110 3 rfl (Nat.le_of_ble_eq_true rfl)
 have K110 := Keep.of_wr W110
 have N110 := Fr.snoc X110 N108 (by omega : @LE.le Nat _ n0 b102)
 have sz6_K110 := K110.1
 have C112 := A101.keep K102
 have C113 := C112.keep K104
 have C114 := C113.keep K106
 have C115 := C114.keep K108
 have C116 := C115.keep K110
 have C117 := F101_value.keep K102 nin0
 have C118 := C117.keep K104 (ninS (by omega : @Ne Nat b101 b102) (nin0))
 have C119 := C118.keep K106 (ninS (by omega : @Ne Nat b101 b102) (nin0))
 have C120 := C119.keep K108 (ninS (by omega : @Ne Nat b101 b102) (nin0))
 have C121 := C120.keep K110 (ninS (by omega : @Ne Nat b101 b102) (nin0))
 have C122 := F101_coder.keep K102 nin0
 have C123 := C122.keep K104 (ninS (by omega : @Ne Nat b101 b102) (nin0))
 have C124 := C123.keep K106 (ninS (by omega : @Ne Nat b101 b102) (nin0))
 have C125 := C124.keep K108 (ninS (by omega : @Ne Nat b101 b102) (nin0))
 have C126 := C125.keep K110 (ninS (by omega : @Ne Nat b101 b102) (nin0))
 have O127 : Old Z n0 h101 := O0.keep K101 all0
 have O128 : Old Z n0 h102 := O127.keep K102 all0
 have O129 : Old Z n0 h104 := O128.keep K104 (allS (by omega) (all0))
 have O130 : Old Z n0 h106 := O129.keep K106 (allS (by omega) (all0))
 have O131 : Old Z n0 h108 := O130.keep K108 (allS (by omega) (all0))
 have O132 : Old Z n0 h110 := O131.keep K110 (allS (by omega) (all0))
 obtain ⟨_, _, ⟨T111, L111, k111, n111⟩, -, X111, ⟨Lc111, hQ111, l111, y111, z111⟩, st111⟩ := X110.specialBack hx (y := mN9) rfl hown (mvT hZ (tw hw 13 rfl)) (mvT hZ (tw hw 14 rfl)) (mvT hZ (tw hw 15 rfl)) (by decide) (StrChars.Road.backV (W := 1) hZ hws (kI := 4) (tw hw 10 rfl) (cs := ([p2, p3, p4, p5] : List Int32)) (bs := ([p2, p3, p4, p5] : List Int32).map (fun c => c.toInt8.toInt32)) (n := 4) (by omega : @LE.le Nat _ n0 b101) (by omega) C116 C121 C126 V110 (Sta.ext O132.2 S_CS) c_CS rfl rfl (by decide) (by decide) hL rfl (by decide) (by decide)) (g := (mkF m 111 #[vI p1, vI p2, vI p3, vI p4, vI p5] [(.ref b102), (.ref b101), (.ref b101)])) rfl (by rw [hml]; rfl) (Steps.refl _) (a := b101) (argsL := [(.ref b102)]) (rest := [(.ref b101)]) (lenOf pd_2 rfl) rfl (by show 2 * 0 + _ ≤ _; exact Nat.le_of_eq rfl) (hb hby d2_111) (fun _ _ => ⟨rfl, e110, (by decide : 2 + 1 ≤ _), (by decide : 8 + 4 ≤ _)⟩)
 dsimp only [Pt.U, Pt.locs, Pt.cells, Pt.slots] at X111 l111 y111 z111 st111 hQ111
 subst l111 y111 z111
 obtain ⟨rfl, N111q, K111, E111, C111, t111, kb111, ge111, gh111, tx111, Vf111, Av111⟩ := hQ111
 have lt111 : @LT.lt Nat _ t111 T111.heap.size := Av111.lt
 have sz7_K111 := K111.1
 have N111 := Fr.app N110 N111q
 have KC133 : Keep h0 h101 [] := (Keep.refl h0 []).trans K101 (all0)
 have KC134 : Keep h0 h102 [] := KC133.trans K102 (all0)
 have KC135 : Keep h0 h104 [] := KC134.trans K104 (allS (Or.inr (by omega)) (all0))
 have KC136 : Keep h0 h106 [] := KC135.trans K106 (allS (Or.inr (by omega)) (all0))
 have KC137 : Keep h0 h108 [] := KC136.trans K108 (allS (Or.inr (by omega)) (all0))
 have KC138 : Keep h0 h110 [] := KC137.trans K110 (allS (Or.inr (by omega)) (all0))
 have KC139 : Keep h0 T111.heap [] := KC138.trans K111 (allS (Or.inr (by omega)) (all0))
 obtain ⟨fs, hr, hrun, hended, hW, hsame⟩ := X111.leave (v := some (.ref b101)) (fun h => by rw [Bd.returns] at h; cases h)
 refine ⟨_, _, pre0 _ ?_, hrun, hended, _, _, rfl, ?_, ⟨_, rfl⟩, hW, hsame.mono (by decide) (by decide)⟩
 ·skip
  show SS p e below s₁ m 0 #[vI p1, vI p2, vI p3, vI p4, vI p5] [] _
  refine XS.iloadN X0.here hx rfl (hb hby d2_0) rfl ?_
  refine XS.ifYes X0.here hx rfl (pc0 := 1) (pc' := 15) rfl (hb hby d2_1) rfl ((if0 _ _).trans (feq (by rw [hm]; decide : ¬ (p1 = (0 : Int32)))).2) (by decide) (by decide) ?_
  refine XS.iloadN X0.here hx rfl (hb hby d2_15) rfl ?_
  refine XS.iconst X0.here hx rfl (hb hby d2_16) ?_
  refine XS.icmpYes X0.here hx rfl (pc0 := 17) (pc' := 35) rfl (hb hby d2_17) rfl (feq (by rw [hm]; decide : ¬ (p1 = (1 : Int32)))).2 (by decide) (by decide) ?_
  refine XS.iloadN X0.here hx rfl (hb hby d2_35) rfl ?_
  refine XS.iconst X0.here hx rfl (hb hby d2_36) ?_
  refine XS.icmpYes X0.here hx rfl (pc0 := 37) (pc' := 59) rfl (hb hby d2_37) rfl (feq (by rw [hm]; decide : ¬ (p1 = (2 : Int32)))).2 (by decide) (by decide) ?_
  refine XS.iloadN X0.here hx rfl (hb hby d2_59) rfl ?_
  refine XS.iconst X0.here hx rfl (hb hby d2_60) ?_
  show SS p e below s₁ m 61 #[vI p1, vI p2, vI p3, vI p4, vI p5] [(.int 3), (.int p1)] _
  refine XS.icmpYes X0.here hx rfl (pc0 := 61) (pc' := 87) rfl (hb hby d2_61) rfl (feq (by rw [hm]; decide : ¬ (p1 = (3 : Int32)))).2 (by decide) (by decide) ?_
  show SS p e below s₁ m 87 #[vI p1, vI p2, vI p3, vI p4, vI p5] [] _
  refine st101 _ ?_
  refine XS.dup X101.here hx rfl (hb hby d2_90) rfl rfl ?_
  refine XS.iconst X101.here hx rfl (hb hby d2_91) ?_
  show SS p e below T101 m 92 #[vI p1, vI p2, vI p3, vI p4, vI p5] [(.int 4), (.ref b101), (.ref b101)] _
  refine st102 _ ?_
  refine XS.dup X102.here hx rfl (hb hby d2_94) rfl rfl ?_
  refine XS.iconst X102.here hx rfl (hb hby d2_95) ?_
  refine XS.iloadN X102.here hx rfl (hb hby d2_96) rfl ?_
  show SS p e below T102 m 97 #[vI p1, vI p2, vI p3, vI p4, vI p5] [(.int p2), (.int 0), (.ref b102), (.ref b102), (.ref b101), (.ref b101)] _
  refine st104 _ ?_
  refine XS.dup X104.here hx rfl (hb hby d2_98) rfl rfl ?_
  refine XS.iconst X104.here hx rfl (hb hby d2_99) ?_
  refine XS.iloadN X104.here hx rfl (hb hby d2_100) rfl ?_
  show SS p e below T104 m 101 #[vI p1, vI p2, vI p3, vI p4, vI p5] [(.int p3), (.int 1), (.ref b102), (.ref b102), (.ref b101), (.ref b101)] _
  refine st106 _ ?_
  refine XS.dup X106.here hx rfl (hb hby d2_102) rfl rfl ?_
  refine XS.iconst X106.here hx rfl (hb hby d2_103) ?_
  refine XS.iloadN X106.here hx rfl (hb hby d2_104) rfl ?_
  show SS p e below T106 m 105 #[vI p1, vI p2, vI p3, vI p4, vI p5] [(.int p4), (.int 2), (.ref b102), (.ref b102), (.ref b101), (.ref b101)] _
  refine st108 _ ?_
  refine XS.dup X108.here hx rfl (hb hby d2_106) rfl rfl ?_
  refine XS.iconst X108.here hx rfl (hb hby d2_107) ?_
  refine XS.iload X108.here hx rfl (hb hby d2_108) rfl ?_
  show SS p e below T108 m 110 #[vI p1, vI p2, vI p3, vI p4, vI p5] [(.int p5), (.int 3), (.ref b102), (.ref b102), (.ref b101), (.ref b101)] _
  refine st110 _ ?_
  show SS p e below T110 m 111 #[vI p1, vI p2, vI p3, vI p4, vI p5] [(.ref b102), (.ref b101), (.ref b101)] _
  refine st111.trans ?_
  show SS p e below T111 m 114 #[vI p1, vI p2, vI p3, vI p4, vI p5] [(.ref b101)] _
  exact X111.areturnOut hx rfl Bd.returns rfl (hb hby d2_114) hr
 ·show Q_rmShort4L Z p1 p2 p3 p4 p5 cs h0 n0 _ T111.heap _
  exact ⟨_, _, _, rfl, N111, KC139, (by omega), E111, Vf111, C111, (by omega), Av111⟩
theorem ef_rmShort4U (m : MethodId) (y0 : Int32) (y1 : Int32) (y2 : Int32) (y3 : Int32) (y4 : Int32) : entryFrame m #[(.int y0), (.int y1), (.int y2), (.int y3), (.int y4)] 5 = (mkF m 0 #[vI y0, vI y1, vI y2, vI y3, vI y4] []) := by first | (simp [entryFrame, mkF, argsToLocals, Value.category]; done) | rfl
def Q_rmShort4U (Z : State) (p1 : Int32) (p2 : Int32) (p3 : Int32) (p4 : Int32) (p5 : Int32) (cs0 : Int32) (m1 : Nat) (h0 : Heap) (n0 : Nat) (v : Option Value) (h : Heap) (L : List Loc) : Prop := ∃ (x t : Addr) (kb : ClassId), v = some (.ref x) ∧ Fr n0 L ∧ Keep h0 h [] ∧ h0.size ≤ x ∧ Exa Z h x "java/lang/String" ∧ Fld Z h x "java/lang/String" "value" "[B" (.ref t) ∧ Fld Z h x "java/lang/String" "coder" "B" (.int 1) ∧ @Ne Nat t x ∧ Arv Z h t kb .byte (Int32.ofNat (2 * ([p2, p3, p4, p5] : List Int32).length)) (u16 ([p2, p3, p4, p5] : List Int32)) (.int 0)
set_option maxRecDepth 65536 in
set_option maxHeartbeats 40000000 in
theorem rmShort4U (l : Launch) (Z : State) (a0 : Array Value) (hw : ∀ d ∈ tables_1, d.before a0 Z = true) (ws : List Jvm.Cond) (p1 : Int32) (p2 : Int32) (p3 : Int32) (p4 : Int32) (p5 : Int32) (cs0 : Int32) (m1 : Nat) (h0 : Heap) (n0 : Nat) (O0 : Old Z n0 h0) (S_CS : SCS Z cs0) (c_CS : ¬ (cs0 = (0 : Int32))) (S_AD : SAD Z) (S_HI : SHI Z) (S_LO : SLO Z) (hm : p1 = (4 : Int32)) (r2 : ¬ p2 < 0 ∧ ¬ (65535 : Int32) < p2) (r3 : ¬ p3 < 0 ∧ ¬ (65535 : Int32) < p3) (r4 : ¬ p4 < 0 ∧ ¬ (65535 : Int32) < p4) (r5 : ¬ p5 < 0 ∧ ¬ (65535 : Int32) < p5) (hcs : ∀ c ∈ ([p2, p3, p4, p5] : List Int32), ¬ c < 0 ∧ ¬ (65535 : Int32) < c) (hj : m1 < ([p2, p3, p4, p5] : List Int32).length) (hpre : ∀ j, j < m1 → ¬ ((255 : Int32) < ([p2, p3, p4, p5] : List Int32).getD j 0)) (hend : (255 : Int32) < (([p2, p3, p4, p5] : List Int32).getD m1 0)) :
  MetFree l mN37 (head1 (Jvm.Cond.code mN37 method_4_code 5 (some (.object "java/lang/String")) :: ws) (Rm 6 4 800 190)) (fun a U => a = #[(.int p1), (.int p2), (.int p3), (.int p4), (.int p5)] ∧ Z.Warmed39 U.vm ∧ U.heap = h0) (fun _ _ _ _ _ => True) (fun _ U o U' => ∃ v L, o = .returned v ∧ Q_rmShort4U Z p1 p2 p3 p4 p5 cs0 m1 h0 n0 v U'.heap L ∧ FrameEnd U o U' L (Rm 6 4 800 190).cells (Rm 6 4 800 190).slots) := by
 refine MetFree.of_bodySF (plainFor_of_name pn_2) hisR ?_
 intro p e s m args below meth c s₁ Bd hml0 hP hK
 obtain ⟨rfl, hZ, hh⟩ := hP
 have hx := Bd.exec
 have hby := Bd.bytes
 have hml : c.maxLocals = 5 := hml0
 have hown : s.vm.findClass "com/example/coterie/coterie/job/JobIsWellFormedKeyPinLaw" = some m.cls := findClass_of_methodNamed Bd.named
 have hnm := (name_of_methodNamed Bd.named Bd.method).1
 have X0 : Stand p l e (Rm 6 4 800 190) s m #[(.int p1), (.int p2), (.int p3), (.int p4), (.int p5)] below meth c s₁ [] 0 0 := Stand.of_body Bd
 have e0 : s₁.heap = h0 := by rw [← hh, Bd.state]; rfl
 have N0 := Fr.nil n0
 have hn0 : n0 ≤ h0.size := O0.1 ▸ O0.2.1
 have pre0 : ∀ t, SS p e below s₁ m 0 #[vI p1, vI p2, vI p3, vI p4, vI p5] [] t → Steps p.tables e below (s₁.setTop (entryFrame m #[(.int p1), (.int p2), (.int p3), (.int p4), (.int p5)] 5)) t := fun t k => castTop (ef_rmShort4U m p1 p2 p3 p4 p5) k
 obtain ⟨T101, h101, X101, e101, E101, A101, D101, -, st101⟩ := newO X0 hx hZ hown (tw hw 9 rfl) (tw hw 10 rfl) (tw hw 11 rfl) e0 (g := (mkF m 87 #[vI p1, vI p2, vI p3, vI p4, vI p5] [])) rfl (hb hby d2_87) (by decide) (by decide)
 obtain ⟨b101, g101⟩ : ∃ z, z = h0.size := ⟨_, rfl⟩
 rw [← g101] at A101 D101 st101
 have lt101 : @LT.lt Nat _ b101 h101.size := A101.lt
 have K101 : Keep h0 h101 [] := (Keep.refl _ _).ext E101
 have sz1_K101 := K101.1
 have F101_value : Fld Z h101 b101 "java/lang/String" "value" "[B" .null := D101 (Or.inr (tw hw 25 rfl)) (ty := (.array .byte)) (by decide)
 have F101_coder : Fld Z h101 b101 "java/lang/String" "coder" "B" (.int 0) := D101 (Or.inr (tw hw 26 rfl)) (ty := .byte) (by decide)
 obtain ⟨T102, h102, k102, X102, e102, E102, A102, st102⟩ := newP X101 hx hZ (tw hw 12 rfl) e101 (g := (mkF m 92 #[vI p1, vI p2, vI p3, vI p4, vI p5] [(.int 4), (.ref b101), (.ref b101)])) rfl (hb hby d2_92) rfl (by decide) (cap := 4) (by decide) (by decide) (by decide) (by decide)
 obtain ⟨b102, g102⟩ : ∃ z, z = h101.size := ⟨_, rfl⟩
 rw [← g102] at A102 st102
 have V102 : Arv Z h102 b102 k102 .char (4 : Int32) [(.int 0), (.int 0), (.int 0), (.int 0)] (.int 0) := (Arv.new A102 (by decide)).pad (pad_rep [] (.int 0) 4)
 have lt102 : @LT.lt Nat _ b102 h102.size := V102.lt
 have K102 : Keep h101 h102 [] := (Keep.refl _ _).ext E102
 have sz2_K102 := K102.1
 obtain ⟨cl103, Ar103, q103, S103, Nn103, H103, G103⟩ := id V102
 obtain ⟨T104, h104, X104, e104, W104, st104⟩ := stC X102 hx hZ e102 Ar103 (j := (0 : Int32)) (inb_of S103 ⟨by decide, by decide⟩) (g := (mkF m 97 #[vI p1, vI p2, vI p3, vI p4, vI p5] [(.int p2), (.int 0), (.ref b102), (.ref b102), (.ref b101), (.ref b101)])) rfl rfl (hb hby d2_97)
 rw [own_nc r2] at W104
 have V104 : Arv Z h104 b102 k102 .char (4 : Int32) [(.int p2), (.int 0), (.int 0), (.int 0)] (.int 0) := Arv.set Ar103 q103 S103 Nn103 H103 G103 (own_fitc r2) W104 0 rfl (Nat.le_of_ble_eq_true rfl)
 have K104 := Keep.of_wr W104
 have N104 := Fr.snoc X104 N0 (by omega : @LE.le Nat _ n0 b102)
 have sz3_K104 := K104.1
 obtain ⟨cl105, Ar105, q105, S105, Nn105, H105, G105⟩ := id V104
 obtain ⟨T106, h106, X106, e106, W106, st106⟩ := stC X104 hx hZ e104 Ar105 (j := (1 : Int32)) (inb_of S105 ⟨by decide, by decide⟩) (g := (mkF m 101 #[vI p1, vI p2, vI p3, vI p4, vI p5] [(.int p3), (.int 1), (.ref b102), (.ref b102), (.ref b101), (.ref b101)])) rfl rfl (hb hby d2_101)
 rw [own_nc r3] at W106
 have V106 : Arv Z h106 b102 k102 .char (4 : Int32) [(.int p2), (.int p3), (.int 0), (.int 0)] (.int 0) := Arv.set Ar105 q105 S105 Nn105 H105 G105 (own_fitc r3) W106 1 rfl (Nat.le_of_ble_eq_true rfl)
 have K106 := Keep.of_wr W106
 have N106 := Fr.snoc X106 N104 (by omega : @LE.le Nat _ n0 b102)
 have sz4_K106 := K106.1
 obtain ⟨cl107, Ar107, q107, S107, Nn107, H107, G107⟩ := id V106
 obtain ⟨T108, h108, X108, e108, W108, st108⟩ := stC X106 hx hZ e106 Ar107 (j := (2 : Int32)) (inb_of S107 ⟨by decide, by decide⟩) (g := (mkF m 105 #[vI p1, vI p2, vI p3, vI p4, vI p5] [(.int p4), (.int 2), (.ref b102), (.ref b102), (.ref b101), (.ref b101)])) rfl rfl (hb hby d2_105)
 rw [own_nc r4] at W108
 have V108 : Arv Z h108 b102 k102 .char (4 : Int32) [(.int p2), (.int p3), (.int p4), (.int 0)] (.int 0) := Arv.set Ar107 q107 S107 Nn107 H107 G107 (own_fitc r4) W108 2 rfl (Nat.le_of_ble_eq_true rfl)
 have K108 := Keep.of_wr W108
 have N108 := Fr.snoc X108 N106 (by omega : @LE.le Nat _ n0 b102)
 have sz5_K108 := K108.1
 obtain ⟨cl109, Ar109, q109, S109, Nn109, H109, G109⟩ := id V108
 obtain ⟨T110, h110, X110, e110, W110, st110⟩ := stC X108 hx hZ e108 Ar109 (j := (3 : Int32)) (inb_of S109 ⟨by decide, by decide⟩) (g := (mkF m 110 #[vI p1, vI p2, vI p3, vI p4, vI p5] [(.int p5), (.int 3), (.ref b102), (.ref b102), (.ref b101), (.ref b101)])) rfl rfl (hb hby d2_110)
 rw [own_nc r5] at W110
 have V110 : Arv Z h110 b102 k102 .char (4 : Int32) [(.int p2), (.int p3), (.int p4), (.int p5)] (.int 0) := Arv.set Ar109 q109 S109 Nn109 H109 G109 (own_fitc r5) W110 3 rfl (Nat.le_of_ble_eq_true rfl)
 have K110 := Keep.of_wr W110
 have N110 := Fr.snoc X110 N108 (by omega : @LE.le Nat _ n0 b102)
 have sz6_K110 := K110.1
 have C112 := A101.keep K102
 have C113 := C112.keep K104
 have C114 := C113.keep K106
 have C115 := C114.keep K108
 have C116 := C115.keep K110
 have C117 := F101_value.keep K102 nin0
 have C118 := C117.keep K104 (ninS (by omega : @Ne Nat b101 b102) (nin0))
 have C119 := C118.keep K106 (ninS (by omega : @Ne Nat b101 b102) (nin0))
 have C120 := C119.keep K108 (ninS (by omega : @Ne Nat b101 b102) (nin0))
 have C121 := C120.keep K110 (ninS (by omega : @Ne Nat b101 b102) (nin0))
 have C122 := F101_coder.keep K102 nin0
 have C123 := C122.keep K104 (ninS (by omega : @Ne Nat b101 b102) (nin0))
 have C124 := C123.keep K106 (ninS (by omega : @Ne Nat b101 b102) (nin0))
 have C125 := C124.keep K108 (ninS (by omega : @Ne Nat b101 b102) (nin0))
 have C126 := C125.keep K110 (ninS (by omega : @Ne Nat b101 b102) (nin0))
 have O127 : Old Z n0 h101 := O0.keep K101 all0
 have O128 : Old Z n0 h102 := O127.keep K102 all0
 have O129 : Old Z n0 h104 := O128.keep K104 (allS (by omega) (all0))
 have O130 : Old Z n0 h106 := O129.keep K106 (allS (by omega) (all0))
 have O131 : Old Z n0 h108 := O130.keep K108 (allS (by omega) (all0))
 have O132 : Old Z n0 h110 := O131.keep K110 (allS (by omega) (all0))
 obtain ⟨_, _, ⟨T111, L111, k111, n111⟩, -, X111, ⟨Lc111, hQ111, l111, y111, z111⟩, st111⟩ := X110.specialBack hx (y := mN9) rfl hown (mvT hZ (tw hw 13 rfl)) (mvT hZ (tw hw 14 rfl)) (mvT hZ (tw hw 15 rfl)) (by decide) (backOf (W := 1) (rmInit1U l Z a0 hw [] b101 b102 ([p2, p3, p4, p5] : List Int32) k102 (.int 0) m1 cs0 h110 n0 O132 S_CS c_CS S_AD S_HI S_LO V110 (by simp) hcs hj hpre hend (by omega : @LE.le Nat _ n0 b101) C116 C121 C126 (by omega)) hZ (tw hw 15 rfl) (tw hw 11 rfl) (by decide) (by decide)) (g := (mkF m 111 #[vI p1, vI p2, vI p3, vI p4, vI p5] [(.ref b102), (.ref b101), (.ref b101)])) rfl (by rw [hml]; rfl) (Steps.refl _) (a := b101) (argsL := [(.ref b102)]) (rest := [(.ref b101)]) (lenOf pd_2 rfl) rfl (by show 2 * 0 + _ ≤ _; exact Nat.le_of_eq rfl) (hb hby d2_111) (fun _ _ => ⟨rfl, e110, (by decide : 2 + 2 ≤ _), (by decide : 8 + 771 ≤ _)⟩)
 dsimp only [Pt.U, Pt.locs, Pt.cells, Pt.slots] at X111 l111 y111 z111 st111 hQ111
 subst l111 y111 z111
 obtain ⟨t111, kb111, rfl, N111q, K111, E111, Fv111, Fc111, gt111, tx111, V111⟩ := hQ111
 have lt111 : @LT.lt Nat _ t111 T111.heap.size := V111.lt
 have sz7_K111 := K111.1
 have N111 := Fr.app N110 N111q
 have KC133 : Keep h0 h101 [] := (Keep.refl h0 []).trans K101 (all0)
 have KC134 : Keep h0 h102 [] := KC133.trans K102 (all0)
 have KC135 : Keep h0 h104 [] := KC134.trans K104 (allS (Or.inr (by omega)) (all0))
 have KC136 : Keep h0 h106 [] := KC135.trans K106 (allS (Or.inr (by omega)) (all0))
 have KC137 : Keep h0 h108 [] := KC136.trans K108 (allS (Or.inr (by omega)) (all0))
 have KC138 : Keep h0 h110 [] := KC137.trans K110 (allS (Or.inr (by omega)) (all0))
 have KC139 : Keep h0 T111.heap [] := KC138.trans K111 (allS (Or.inr (by omega)) (all0))
 obtain ⟨fs, hr, hrun, hended, hW, hsame⟩ := X111.leave (v := some (.ref b101)) (fun h => by rw [Bd.returns] at h; cases h)
 refine ⟨_, _, pre0 _ ?_, hrun, hended, _, _, rfl, ?_, ⟨_, rfl⟩, hW, hsame.mono (by decide) (by decide)⟩
 ·skip
  show SS p e below s₁ m 0 #[vI p1, vI p2, vI p3, vI p4, vI p5] [] _
  refine XS.iloadN X0.here hx rfl (hb hby d2_0) rfl ?_
  refine XS.ifYes X0.here hx rfl (pc0 := 1) (pc' := 15) rfl (hb hby d2_1) rfl ((if0 _ _).trans (feq (by rw [hm]; decide : ¬ (p1 = (0 : Int32)))).2) (by decide) (by decide) ?_
  refine XS.iloadN X0.here hx rfl (hb hby d2_15) rfl ?_
  refine XS.iconst X0.here hx rfl (hb hby d2_16) ?_
  refine XS.icmpYes X0.here hx rfl (pc0 := 17) (pc' := 35) rfl (hb hby d2_17) rfl (feq (by rw [hm]; decide : ¬ (p1 = (1 : Int32)))).2 (by decide) (by decide) ?_
  refine XS.iloadN X0.here hx rfl (hb hby d2_35) rfl ?_
  refine XS.iconst X0.here hx rfl (hb hby d2_36) ?_
  refine XS.icmpYes X0.here hx rfl (pc0 := 37) (pc' := 59) rfl (hb hby d2_37) rfl (feq (by rw [hm]; decide : ¬ (p1 = (2 : Int32)))).2 (by decide) (by decide) ?_
  refine XS.iloadN X0.here hx rfl (hb hby d2_59) rfl ?_
  refine XS.iconst X0.here hx rfl (hb hby d2_60) ?_
  show SS p e below s₁ m 61 #[vI p1, vI p2, vI p3, vI p4, vI p5] [(.int 3), (.int p1)] _
  refine XS.icmpYes X0.here hx rfl (pc0 := 61) (pc' := 87) rfl (hb hby d2_61) rfl (feq (by rw [hm]; decide : ¬ (p1 = (3 : Int32)))).2 (by decide) (by decide) ?_
  show SS p e below s₁ m 87 #[vI p1, vI p2, vI p3, vI p4, vI p5] [] _
  refine st101 _ ?_
  refine XS.dup X101.here hx rfl (hb hby d2_90) rfl rfl ?_
  refine XS.iconst X101.here hx rfl (hb hby d2_91) ?_
  show SS p e below T101 m 92 #[vI p1, vI p2, vI p3, vI p4, vI p5] [(.int 4), (.ref b101), (.ref b101)] _
  refine st102 _ ?_
  refine XS.dup X102.here hx rfl (hb hby d2_94) rfl rfl ?_
  refine XS.iconst X102.here hx rfl (hb hby d2_95) ?_
  refine XS.iloadN X102.here hx rfl (hb hby d2_96) rfl ?_
  show SS p e below T102 m 97 #[vI p1, vI p2, vI p3, vI p4, vI p5] [(.int p2), (.int 0), (.ref b102), (.ref b102), (.ref b101), (.ref b101)] _
  refine st104 _ ?_
  refine XS.dup X104.here hx rfl (hb hby d2_98) rfl rfl ?_
  refine XS.iconst X104.here hx rfl (hb hby d2_99) ?_
  refine XS.iloadN X104.here hx rfl (hb hby d2_100) rfl ?_
  show SS p e below T104 m 101 #[vI p1, vI p2, vI p3, vI p4, vI p5] [(.int p3), (.int 1), (.ref b102), (.ref b102), (.ref b101), (.ref b101)] _
  refine st106 _ ?_
  refine XS.dup X106.here hx rfl (hb hby d2_102) rfl rfl ?_
  refine XS.iconst X106.here hx rfl (hb hby d2_103) ?_
  refine XS.iloadN X106.here hx rfl (hb hby d2_104) rfl ?_
  show SS p e below T106 m 105 #[vI p1, vI p2, vI p3, vI p4, vI p5] [(.int p4), (.int 2), (.ref b102), (.ref b102), (.ref b101), (.ref b101)] _
  refine st108 _ ?_
  refine XS.dup X108.here hx rfl (hb hby d2_106) rfl rfl ?_
  refine XS.iconst X108.here hx rfl (hb hby d2_107) ?_
  refine XS.iload X108.here hx rfl (hb hby d2_108) rfl ?_
  show SS p e below T108 m 110 #[vI p1, vI p2, vI p3, vI p4, vI p5] [(.int p5), (.int 3), (.ref b102), (.ref b102), (.ref b101), (.ref b101)] _
  refine st110 _ ?_
  show SS p e below T110 m 111 #[vI p1, vI p2, vI p3, vI p4, vI p5] [(.ref b102), (.ref b101), (.ref b101)] _
  refine st111.trans ?_
  show SS p e below T111 m 114 #[vI p1, vI p2, vI p3, vI p4, vI p5] [(.ref b101)] _
  exact X111.areturnOut hx rfl Bd.returns rfl (hb hby d2_114) hr
 ·show Q_rmShort4U Z p1 p2 p3 p4 p5 cs0 m1 h0 n0 _ T111.heap _
  exact ⟨_, _, _, rfl, N111, KC139, (by omega), E111, Fv111, Fc111, (by omega), V111⟩
theorem d2_4 : decode cD37 4 = .ok (.new 11, 3) := by decide +kernel
theorem d2_7 : decode cD37 7 = .ok (.dup, 1) := by decide +kernel
theorem d2_8 : decode cD37 8 = .ok (.iconst 0, 1) := by decide +kernel
theorem d2_9 : decode cD37 9 = .ok (.newarray .char, 2) := by decide +kernel
theorem d2_11 : decode cD37 11 = .ok (.invokespecial 13, 3) := by decide +kernel
theorem d2_14 : decode cD37 14 = .ok (.areturn, 1) := by decide +kernel
theorem ef_rmShort0 (m : MethodId) (y0 : Int32) (y1 : Int32) (y2 : Int32) (y3 : Int32) (y4 : Int32) : entryFrame m #[(.int y0), (.int y1), (.int y2), (.int y3), (.int y4)] 5 = (mkF m 0 #[vI y0, vI y1, vI y2, vI y3, vI y4] []) := by first | (simp [entryFrame, mkF, argsToLocals, Value.category]; done) | rfl
def Q_rmShort0 (Z : State) (p1 : Int32) (p2 : Int32) (p3 : Int32) (p4 : Int32) (p5 : Int32) (h0 : Heap) (n0 : Nat) (v : Option Value) (h : Heap) (L : List Loc) : Prop := ∃ (x t : Addr) (kb : ClassId), v = some (.ref x) ∧ Fr n0 L ∧ Keep h0 h [] ∧ h0.size ≤ x ∧ Exa Z h x "java/lang/String" ∧ Fld Z h x "java/lang/String" "value" "[B" (.ref t) ∧ Fld Z h x "java/lang/String" "coder" "B" (.int 0) ∧ @Ne Nat t x ∧ Arv Z h t kb .byte (Int32.ofNat ([] : List Int32).length) (([] : List Int32).map Value.int) (.int 0)
set_option maxRecDepth 65536 in
set_option maxHeartbeats 40000000 in
theorem rmShort0 (l : Launch) (Z : State) (a0 : Array Value) (hw : ∀ d ∈ tables_1, d.before a0 Z = true) (ws : List Jvm.Cond) (p1 : Int32) (p2 : Int32) (p3 : Int32) (p4 : Int32) (p5 : Int32) (h0 : Heap) (n0 : Nat) (O0 : Old Z n0 h0) (hm : p1 = (0 : Int32)) :
  MetFree l mN37 (head1 (Jvm.Cond.code mN37 method_4_code 5 (some (.object "java/lang/String")) :: ws) (Rm 3 4 20 90)) (fun a U => a = #[(.int p1), (.int p2), (.int p3), (.int p4), (.int p5)] ∧ Z.Warmed39 U.vm ∧ U.heap = h0 ∧ CHv Z EL1 U.vm h0) (fun _ _ _ _ _ => True) (fun _ U o U' => ∃ v L, o = .returned v ∧ Q_rmShort0 Z p1 p2 p3 p4 p5 h0 n0 v U'.heap L ∧ ReturnedEndW U o U' L (Rm 3 4 20 90).cells (Rm 3 4 20 90).slots) := by
 refine MetFree.of_bodySF (plainFor_of_name pn_2) hisR ?_
 intro p e s m args below meth c s₁ Bd hml0 hP hK
 obtain ⟨rfl, hZ, hh, hCH⟩ := hP
 have hx := Bd.exec
 have hby := Bd.bytes
 have hml : c.maxLocals = 5 := hml0
 have hown : s.vm.findClass "com/example/coterie/coterie/job/JobIsWellFormedKeyPinLaw" = some m.cls := findClass_of_methodNamed Bd.named
 have hnm := (name_of_methodNamed Bd.named Bd.method).1
 have X0 : Stand p l e (Rm 3 4 20 90) s m #[(.int p1), (.int p2), (.int p3), (.int p4), (.int p5)] below meth c s₁ [] 0 0 := Stand.of_body Bd
 have e0 : s₁.heap = h0 := by rw [← hh, Bd.state]; rfl
 have N0 := Fr.nil n0
 have hn0 : n0 ≤ h0.size := O0.1 ▸ O0.2.1
 have hS0 : s.Since s.vm h0.size := (State.WarmedH.refl s).since _
 have pre0 : ∀ t, SS p e below s₁ m 0 #[vI p1, vI p2, vI p3, vI p4, vI p5] [] t → Steps p.tables e below (s₁.setTop (entryFrame m #[(.int p1), (.int p2), (.int p3), (.int p4), (.int p5)] 5)) t := fun t k => castTop (ef_rmShort0 m p1 p2 p3 p4 p5) k
 have wStr : ∀ d ∈ Bundle.stringAtoms, d.before a0 Z = true := fun d hd => hw d ((by decide +kernel : ∀ d ∈ Bundle.stringAtoms, d ∈ tables_1) d hd)
 have hEW : EW Z a0 EL1 := EW.cons (tw hw 23 rfl) (by decide) EW.nil
 obtain ⟨T101, h101, X101, e101, E101, A101, D101, -, st101⟩ := newO X0 hx hZ hown (tw hw 9 rfl) (tw hw 10 rfl) (tw hw 11 rfl) e0 (g := (mkF m 4 #[vI p1, vI p2, vI p3, vI p4, vI p5] [])) rfl (hb hby d2_4) (by decide) (by decide)
 obtain ⟨b101, g101⟩ : ∃ z, z = h0.size := ⟨_, rfl⟩
 rw [← g101] at A101 D101 st101
 have lt101 : @LT.lt Nat _ b101 h101.size := A101.lt
 have K101 : Keep h0 h101 [] := (Keep.refl _ _).ext E101
 have sz1_K101 := K101.1
 have F101_value : Fld Z h101 b101 "java/lang/String" "value" "[B" .null := D101 (Or.inr (tw hw 25 rfl)) (ty := (.array .byte)) (by decide)
 have F101_coder : Fld Z h101 b101 "java/lang/String" "coder" "B" (.int 0) := D101 (Or.inr (tw hw 26 rfl)) (ty := .byte) (by decide)
 obtain ⟨T102, h102, k102, X102, e102, E102, A102, st102⟩ := newP X101 hx hZ (tw hw 12 rfl) e101 (g := (mkF m 9 #[vI p1, vI p2, vI p3, vI p4, vI p5] [(.int 0), (.ref b101), (.ref b101)])) rfl (hb hby d2_9) rfl (by decide) (cap := 0) (by decide) (by decide) (by decide) (by decide)
 obtain ⟨b102, g102⟩ : ∃ z, z = h101.size := ⟨_, rfl⟩
 rw [← g102] at A102 st102
 have V102 : Arv Z h102 b102 k102 .char (0 : Int32) [] (.int 0) := (Arv.new A102 (by decide)).pad (pad_rep [] (.int 0) 0)
 have lt102 : @LT.lt Nat _ b102 h102.size := V102.lt
 have K102 : Keep h101 h102 [] := (Keep.refl _ _).ext E102
 have sz2_K102 := K102.1
 have C104 := A101.keep K102
 have C105 := F101_value.keep K102 nin0
 have C106 := F101_coder.keep K102 nin0
 have O107 : Old Z n0 h101 := O0.keep K101 all0
 have O108 : Old Z n0 h102 := O107.keep K102 all0
 have CH109 := CHv.keep K101 (fun _ q => nomatch q) hCH
 have CH110 := CHv.keep K102 (fun _ q => nomatch q) CH109
 obtain ⟨_, _, ⟨T103, L103, k103, n103⟩, -, X103q, hSq103, hgr103, ⟨Lc103, hQ103, l103, y103, z103⟩, st103⟩ := X102.specialBackS hx (y := mN9) rfl hown (mvT hZ (tw hw 13 rfl)) (mvT hZ (tw hw 14 rfl)) (mvT hZ (tw hw 15 rfl)) (by decide) (own_backH (s := s) (vm0 := s.vm) (EL := EL1) (W := 1) (rmInit1Z l Z a0 hw [] b101 b102 k102 [] (.int 0) h102 n0 O108 (by omega : @LE.le Nat _ n0 b101) C104 C105 C106 V102) hZ (tw hw 15 rfl) (tw hw 11 rfl) (by decide) (by decide) hEW CH110) (g := (mkF m 11 #[vI p1, vI p2, vI p3, vI p4, vI p5] [(.ref b102), (.ref b101), (.ref b101)])) rfl (by rw [hml]; rfl) (Steps.refl _) (a := b101) (argsL := [(.ref b102)]) (rest := [(.ref b101)]) (lenOf pd_2 rfl) rfl (by show 2 * 0 + _ ≤ _; exact Nat.le_of_eq rfl) (hb hby d2_11) (fun _ _ => ⟨rfl, e102, (by decide : 2 + 2 ≤ _), (by decide : 4 + 4 ≤ _)⟩)
 dsimp only [Pt.U, Pt.locs, Pt.cells, Pt.slots] at X103q l103 y103 z103 st103 hQ103 hSq103 hgr103
 subst l103 y103 z103
 obtain ⟨X103, hS103, hZ103, hown103⟩ := rebS (s := s) (vm0 := s.vm) hS0 (by rw [e102]; omega) X103q hSq103 hgr103 hZ hown
 obtain ⟨t103, kb103, rfl, N103q, K103, E103, Fv103, Fc103, tx103, V103⟩ := hQ103
 have lt103 : @LT.lt Nat _ t103 T103.heap.size := V103.lt
 have sz3_K103 := K103.1
 have N103 := Fr.app N0 N103q
 have KC111 : Keep h0 h101 [] := (Keep.refl h0 []).trans K101 (all0)
 have KC112 : Keep h0 h102 [] := KC111.trans K102 (all0)
 have KC113 : Keep h0 T103.heap [] := KC112.trans K103 (allS (Or.inr (by omega)) (all0))
 obtain ⟨fs, hr, hrun, hended, eR, eW, eI, eS⟩ := Stand.leaveW (s := s) (vm₁ := T103.vm) X103 hS103 (by omega) (v := some (.ref b101)) (fun h => by rw [Bd.returns] at h; cases h)
 refine ⟨_, _, pre0 _ ?_, hrun, hended, _, _, rfl, ?_, eR, eW, eI, eS.mono (by decide) (by decide)⟩
 ·skip
  show SS p e below s₁ m 0 #[vI p1, vI p2, vI p3, vI p4, vI p5] [] _
  refine XS.iloadN X0.here hx rfl (hb hby d2_0) rfl ?_
  refine XS.ifNo X0.here hx rfl (hb hby d2_1) rfl ((if0 _ _).trans (teq (hm : p1 = (0 : Int32))).2) ?_
  show SS p e below s₁ m 4 #[vI p1, vI p2, vI p3, vI p4, vI p5] [] _
  refine st101 _ ?_
  refine XS.dup X101.here hx rfl (hb hby d2_7) rfl rfl ?_
  refine XS.iconst X101.here hx rfl (hb hby d2_8) ?_
  show SS p e below T101 m 9 #[vI p1, vI p2, vI p3, vI p4, vI p5] [(.int 0), (.ref b101), (.ref b101)] _
  refine st102 _ ?_
  show SS p e below T102 m 11 #[vI p1, vI p2, vI p3, vI p4, vI p5] [(.ref b102), (.ref b101), (.ref b101)] _
  refine st103.trans ?_
  show SS p e below T103 m 14 #[vI p1, vI p2, vI p3, vI p4, vI p5] [(.ref b101)] _
  exact X103.areturnOut hx rfl Bd.returns rfl (hb hby d2_14) hr
 ·show Q_rmShort0 Z p1 p2 p3 p4 p5 h0 n0 _ T103.heap _
  exact ⟨_, _, _, rfl, N103, KC113, (by omega), E103, Fv103, Fc103, (by omega), V103⟩
theorem d35_0 : decode cD38 0 = .ok (.bipush 97, 2) := by decide +kernel
theorem d35_2 : decode cD38 2 = .ok (.istore 4, 2) := by decide +kernel
theorem d35_4 : decode cD38 4 = .ok (.sipush 257, 3) := by decide +kernel
theorem d35_7 : decode cD38 7 = .ok (.newarray .char, 2) := by decide +kernel
theorem d35_1646 : decode cD38 1646 = .ok (.dup, 1) := by decide +kernel
theorem d35_1647 : decode cD38 1647 = .ok (.sipush 253, 3) := by decide +kernel
theorem d35_1650 : decode cD38 1650 = .ok (.iload_n 0, 1) := by decide +kernel
theorem d35_1651 : decode cD38 1651 = .ok (.castore, 1) := by decide +kernel
theorem d35_1652 : decode cD38 1652 = .ok (.dup, 1) := by decide +kernel
theorem d35_1653 : decode cD38 1653 = .ok (.sipush 254, 3) := by decide +kernel
theorem d35_1656 : decode cD38 1656 = .ok (.iload_n 1, 1) := by decide +kernel
theorem d35_1657 : decode cD38 1657 = .ok (.castore, 1) := by decide +kernel
theorem d35_1658 : decode cD38 1658 = .ok (.dup, 1) := by decide +kernel
theorem d35_1659 : decode cD38 1659 = .ok (.sipush 255, 3) := by decide +kernel
theorem d35_1662 : decode cD38 1662 = .ok (.iload_n 2, 1) := by decide +kernel
theorem d35_1663 : decode cD38 1663 = .ok (.castore, 1) := by decide +kernel
theorem d35_1664 : decode cD38 1664 = .ok (.dup, 1) := by decide +kernel
theorem d35_1665 : decode cD38 1665 = .ok (.sipush 256, 3) := by decide +kernel
theorem d35_1668 : decode cD38 1668 = .ok (.iload_n 3, 1) := by decide +kernel
theorem d35_1669 : decode cD38 1669 = .ok (.castore, 1) := by decide +kernel
theorem d35_1670 : decode cD38 1670 = .ok (.astore 5, 2) := by decide +kernel
theorem d35_1672 : decode cD38 1672 = .ok (.new 11, 3) := by decide +kernel
theorem d35_1675 : decode cD38 1675 = .ok (.dup, 1) := by decide +kernel
theorem d35_1676 : decode cD38 1676 = .ok (.aload 5, 2) := by decide +kernel
theorem d35_1678 : decode cD38 1678 = .ok (.invokespecial 13, 3) := by decide +kernel
theorem d35_1681 : decode cD38 1681 = .ok (.areturn, 1) := by decide +kernel
theorem pn_35 : plainName "com/example/coterie/coterie/job/JobIsWellFormedKeyPinLaw" = true := by first | (simp [plainName, overriddenIn]; done) | decide +kernel
theorem ef_rmLongL (m : MethodId) (y0 : Int32) (y1 : Int32) (y2 : Int32) (y3 : Int32) : entryFrame m #[(.int y0), (.int y1), (.int y2), (.int y3)] 6 = (mkF m 0 #[vI y0, vI y1, vI y2, vI y3, .unset, .unset] []) := by first | (simp [entryFrame, mkF, argsToLocals, Value.category]; done) | rfl
def Q_rmLongL (Z : State) (p1 : Int32) (p2 : Int32) (p3 : Int32) (p4 : Int32) (cs : Int32) (h0 : Heap) (n0 : Nat) (v : Option Value) (h : Heap) (L : List Loc) : Prop := ∃ (x t : Addr) (kb : ClassId), v = some (.ref x) ∧ Fr n0 L ∧ Keep h0 h [] ∧ h0.size ≤ x ∧ Exa Z h x "java/lang/String" ∧ Fld Z h x "java/lang/String" "value" "[B" (.ref t) ∧ Fld Z h x "java/lang/String" "coder" "B" (.int 0) ∧ @Ne Nat t x ∧ Arv Z h t kb .byte (Int32.ofNat ((longL p1 p2 p3 p4).map (fun c => c.toInt8.toInt32)).length) (((longL p1 p2 p3 p4).map (fun c => c.toInt8.toInt32)).map Value.int) (.int 0)
set_option maxRecDepth 65536 in
set_option maxHeartbeats 40000000 in
theorem rmLongL (l : Launch) (Z : State) (a0 : Array Value) (hw : ∀ d ∈ tables_1, d.before a0 Z = true) (ws : List Jvm.Cond) (p1 : Int32) (p2 : Int32) (p3 : Int32) (p4 : Int32) (cs : Int32) (h0 : Heap) (n0 : Nat) (O0 : Old Z n0 h0) (S_CS : SCS Z cs) (c_CS : ¬ (cs = (0 : Int32))) (r1 : ¬ p1 < 0 ∧ ¬ (65535 : Int32) < p1) (r2 : ¬ p2 < 0 ∧ ¬ (65535 : Int32) < p2) (r3 : ¬ p3 < 0 ∧ ¬ (65535 : Int32) < p3) (r4 : ¬ p4 < 0 ∧ ¬ (65535 : Int32) < p4) (hL : ∀ c ∈ (longL p1 p2 p3 p4), ¬ c < 0 ∧ ¬ (255 : Int32) < c) :
  MetFree l mN38 (head1 (Jvm.Cond.code mN38 method_5_code 6 (some (.object "java/lang/String")) :: ws) (Rm 6 4 1300 190)) (fun a U => a = #[(.int p1), (.int p2), (.int p3), (.int p4)] ∧ Z.Warmed39 U.vm ∧ U.heap = h0) (fun _ _ _ _ _ => True) (fun _ U o U' => ∃ v L, o = .returned v ∧ Q_rmLongL Z p1 p2 p3 p4 cs h0 n0 v U'.heap L ∧ FrameEnd U o U' L (Rm 6 4 1300 190).cells (Rm 6 4 1300 190).slots) := by
 refine MetFree.of_bodySF (plainFor_of_name pn_35) hisR ?_
 intro p e s m args below meth c s₁ Bd hml0 hP hK
 obtain ⟨rfl, hZ, hh⟩ := hP
 have hx := Bd.exec
 have hby := Bd.bytes
 have hml : c.maxLocals = 6 := hml0
 have hown : s.vm.findClass "com/example/coterie/coterie/job/JobIsWellFormedKeyPinLaw" = some m.cls := findClass_of_methodNamed Bd.named
 have hnm := (name_of_methodNamed Bd.named Bd.method).1
 have X0 : Stand p l e (Rm 6 4 1300 190) s m #[(.int p1), (.int p2), (.int p3), (.int p4)] below meth c s₁ [] 0 0 := Stand.of_body Bd
 have e0 : s₁.heap = h0 := by rw [← hh, Bd.state]; rfl
 have N0 := Fr.nil n0
 have hn0 : n0 ≤ h0.size := O0.1 ▸ O0.2.1
 have pre0 : ∀ t, SS p e below s₁ m 0 #[vI p1, vI p2, vI p3, vI p4, .unset, .unset] [] t → Steps p.tables e below (s₁.setTop (entryFrame m #[(.int p1), (.int p2), (.int p3), (.int p4)] 6)) t := fun t k => castTop (ef_rmLongL m p1 p2 p3 p4) k
 have hws : ∀ d ∈ StrChars.Road.words, d.before a0 Z = true := fun d hd => hw d ((by decide +kernel : ∀ d ∈ StrChars.Road.words, d ∈ tables_1) d hd)
 obtain ⟨T101, h101, k101, X101, e101, E101, A101, st101⟩ := newP X0 hx hZ (tw hw 12 rfl) e0 (g := (mkF m 7 #[vI p1, vI p2, vI p3, vI p4, vI 97, .unset] [(.int 257)])) rfl (hb hby d35_7) rfl (by decide) (cap := 257) (by decide) (by decide) (by decide) (by decide)
 obtain ⟨b101, g101⟩ : ∃ z, z = h0.size := ⟨_, rfl⟩
 rw [← g101] at A101 st101
 have V101 : Arv Z h101 b101 k101 .char (257 : Int32) [] (.int 0) := Arv.new A101 (by decide)
 have lt101 : @LT.lt Nat _ b101 h101.size := V101.lt
 have K101 : Keep h0 h101 [] := (Keep.refl _ _).ext E101
 have sz1_K101 := K101.1
 have pre102 : ∀ t, SS p e below T101 m 9 #[vI p1, vI p2, vI p3, vI p4, vI 97, .unset] [(.ref b101)] t → Steps p.tables e below (s₁.setTop (entryFrame m #[(.int p1), (.int p2), (.int p3), (.int p4)] 6)) t := by
  intro t kt
  refine pre0 _ ?_
  show SS p e below s₁ m 0 #[vI p1, vI p2, vI p3, vI p4, .unset, .unset] [] _
  refine XS.bipush X0.here hx rfl (hb hby d35_0) ?_
  refine XS.istore X0.here hx rfl (hb hby d35_2) rfl (l' := #[vI p1, vI p2, vI p3, vI p4, vI 97, .unset]) rfl ?_
  refine XS.sipush X0.here hx rfl (hb hby d35_4) ?_
  show SS p e below s₁ m 7 #[vI p1, vI p2, vI p3, vI p4, vI 97, .unset] [(.int 257)] _
  refine st101 _ ?_
  exact kt
 obtain ⟨T103, h103, L103, X103, e103, N103, K103, V103, st103⟩ := lpFill p1 p2 p3 p4 b101 k101 X101 hx hZ hby e101 N0 (by omega : @LE.le Nat _ n0 b101) (V101.pad (pad_rep [] (.int 0) 257)) 253 (Nat.le_refl _)
 have sz2_K103 := K103.1
 obtain ⟨cl104, Ar104, q104, S104, Nn104, H104, G104⟩ := id V103
 obtain ⟨T105, h105, X105, e105, W105, st105⟩ := stC X103 hx hZ e103 Ar104 (j := (253 : Int32)) (inb_of S104 ⟨by decide, by decide⟩) (g := (mkF m 1651 #[vI p1, vI p2, vI p3, vI p4, vI 97, .unset] [(.int p1), (.int 253), (.ref b101), (.ref b101)])) rfl rfl (hb hby d35_1651)
 rw [own_nc r1] at W105
 have V105 : Arv Z h105 b101 k101 .char (257 : Int32) ((fillL 253).set 253 (.int p1)) (.int 0) := Arv.set Ar104 q104 S104 Nn104 H104 G104 (own_fitc r1) W105 253 (by decide) (by rw [fillL_len (by decide)]; decide)
 have K105 := Keep.of_wr W105
 have N105 := Fr.snoc X105 N103 (by omega : @LE.le Nat _ n0 b101)
 have sz3_K105 := K105.1
 obtain ⟨cl106, Ar106, q106, S106, Nn106, H106, G106⟩ := id V105
 obtain ⟨T107, h107, X107, e107, W107, st107⟩ := stC X105 hx hZ e105 Ar106 (j := (254 : Int32)) (inb_of S106 ⟨by decide, by decide⟩) (g := (mkF m 1657 #[vI p1, vI p2, vI p3, vI p4, vI 97, .unset] [(.int p2), (.int 254), (.ref b101), (.ref b101)])) rfl rfl (hb hby d35_1657)
 rw [own_nc r2] at W107
 have V107 : Arv Z h107 b101 k101 .char (257 : Int32) (((fillL 253).set 253 (.int p1)).set 254 (.int p2)) (.int 0) := Arv.set Ar106 q106 S106 Nn106 H106 G106 (own_fitc r2) W107 254 (by decide) (by simp only [List.length_set]; rw [fillL_len (by decide)]; decide)
 have K107 := Keep.of_wr W107
 have N107 := Fr.snoc X107 N105 (by omega : @LE.le Nat _ n0 b101)
 have sz4_K107 := K107.1
 obtain ⟨cl108, Ar108, q108, S108, Nn108, H108, G108⟩ := id V107
 obtain ⟨T109, h109, X109, e109, W109, st109⟩ := stC X107 hx hZ e107 Ar108 (j := (255 : Int32)) (inb_of S108 ⟨by decide, by decide⟩) (g := (mkF m 1663 #[vI p1, vI p2, vI p3, vI p4, vI 97, .unset] [(.int p3), (.int 255), (.ref b101), (.ref b101)])) rfl rfl (hb hby d35_1663)
 rw [own_nc r3] at W109
 have V109 : Arv Z h109 b101 k101 .char (257 : Int32) ((((fillL 253).set 253 (.int p1)).set 254 (.int p2)).set 255 (.int p3)) (.int 0) := Arv.set Ar108 q108 S108 Nn108 H108 G108 (own_fitc r3) W109 255 (by decide) (by simp only [List.length_set]; rw [fillL_len (by decide)]; decide)
 have K109 := Keep.of_wr W109
 have N109 := Fr.snoc X109 N107 (by omega : @LE.le Nat _ n0 b101)
 have sz5_K109 := K109.1
 obtain ⟨cl110, Ar110, q110, S110, Nn110, H110, G110⟩ := id V109
 obtain ⟨T111, h111, X111, e111, W111, st111⟩ := stC X109 hx hZ e109 Ar110 (j := (256 : Int32)) (inb_of S110 ⟨by decide, by decide⟩) (g := (mkF m 1669 #[vI p1, vI p2, vI p3, vI p4, vI 97, .unset] [(.int p4), (.int 256), (.ref b101), (.ref b101)])) rfl rfl (hb hby d35_1669)
 rw [own_nc r4] at W111
 have V111 : Arv Z h111 b101 k101 .char (257 : Int32) (((((fillL 253).set 253 (.int p1)).set 254 (.int p2)).set 255 (.int p3)).set 256 (.int p4)) (.int 0) := Arv.set Ar110 q110 S110 Nn110 H110 G110 (own_fitc r4) W111 256 (by decide) (by simp only [List.length_set]; rw [fillL_len (by decide)]; decide)
 have K111 := Keep.of_wr W111
 have N111 := Fr.snoc X111 N109 (by omega : @LE.le Nat _ n0 b101)
 rw [longL_eq p1 p2 p3 p4] at V111
 have sz6_K111 := K111.1
 obtain ⟨T112, h112, X112, e112, E112, A112, D112, -, st112⟩ := newO X111 hx hZ hown (tw hw 9 rfl) (tw hw 10 rfl) (tw hw 11 rfl) e111 (g := (mkF m 1672 #[vI p1, vI p2, vI p3, vI p4, vI 97, vR b101] [])) rfl (hb hby d35_1672) (by decide) (by decide)
 obtain ⟨b112, g112⟩ : ∃ z, z = h111.size := ⟨_, rfl⟩
 rw [← g112] at A112 D112 st112
 have lt112 : @LT.lt Nat _ b112 h112.size := A112.lt
 have K112 : Keep h111 h112 [] := (Keep.refl _ _).ext E112
 have sz7_K112 := K112.1
 have F112_value : Fld Z h112 b112 "java/lang/String" "value" "[B" .null := D112 (Or.inr (tw hw 25 rfl)) (ty := (.array .byte)) (by decide)
 have F112_coder : Fld Z h112 b112 "java/lang/String" "coder" "B" (.int 0) := D112 (Or.inr (tw hw 26 rfl)) (ty := .byte) (by decide)
 have C114 := V111.keep K112 nin0
 have O115 : Old Z n0 h101 := O0.keep K101 all0
 have O116 : Old Z n0 h103 := O115.keep K103 (allS (by omega) (all0))
 have O117 : Old Z n0 h105 := O116.keep K105 (allS (by omega) (all0))
 have O118 : Old Z n0 h107 := O117.keep K107 (allS (by omega) (all0))
 have O119 : Old Z n0 h109 := O118.keep K109 (allS (by omega) (all0))
 have O120 : Old Z n0 h111 := O119.keep K111 (allS (by omega) (all0))
 have O121 : Old Z n0 h112 := O120.keep K112 all0
 obtain ⟨_, _, ⟨T113, L113, k113, n113⟩, -, X113, ⟨Lc113, hQ113, l113, y113, z113⟩, st113⟩ := X112.specialBack hx (y := mN9) rfl hown (mvT hZ (tw hw 13 rfl)) (mvT hZ (tw hw 14 rfl)) (mvT hZ (tw hw 15 rfl)) (by decide) (StrChars.Road.backV (W := 1) hZ hws (kI := 4) (tw hw 10 rfl) (cs := (longL p1 p2 p3 p4)) (bs := (longL p1 p2 p3 p4).map (fun c => c.toInt8.toInt32)) (n := 257) (by omega : @LE.le Nat _ n0 b112) (by omega) A112 F112_value F112_coder C114 (Sta.ext O121.2 S_CS) c_CS (longL_len _ _ _ _) (by decide) (by decide) (by decide) hL rfl (by decide) (by decide)) (g := (mkF m 1678 #[vI p1, vI p2, vI p3, vI p4, vI 97, vR b101] [(.ref b101), (.ref b112), (.ref b112)])) rfl (by rw [hml]; rfl) (Steps.refl _) (a := b112) (argsL := [(.ref b101)]) (rest := [(.ref b112)]) (lenOf pd_2 rfl) rfl (by show 2 * 0 + _ ≤ _; exact Nat.le_of_eq rfl) (hb hby d35_1678) (fun _ _ => ⟨rfl, e112, (by decide : 2 + 1 ≤ _), (by decide : 261 + 257 ≤ _)⟩)
 dsimp only [Pt.U, Pt.locs, Pt.cells, Pt.slots] at X113 l113 y113 z113 st113 hQ113
 subst l113 y113 z113
 obtain ⟨rfl, N113q, K113, E113, C113, t113, kb113, ge113, gh113, tx113, Vf113, Av113⟩ := hQ113
 have lt113 : @LT.lt Nat _ t113 T113.heap.size := Av113.lt
 have tx113' : @Ne Nat t113 b112 := tx113
 have sz8_K113 := K113.1
 have N113 := Fr.app N111 N113q
 have hlen : ((longL p1 p2 p3 p4).map (fun c => c.toInt8.toInt32)).length = 257 := by rw [List.length_map, longL_len]
 have KC122 : Keep h0 h101 [] := (Keep.refl h0 []).trans K101 (all0)
 have KC123 : Keep h0 h103 [] := KC122.trans K103 (allS (Or.inr (by omega)) (all0))
 have KC124 : Keep h0 h105 [] := KC123.trans K105 (allS (Or.inr (by omega)) (all0))
 have KC125 : Keep h0 h107 [] := KC124.trans K107 (allS (Or.inr (by omega)) (all0))
 have KC126 : Keep h0 h109 [] := KC125.trans K109 (allS (Or.inr (by omega)) (all0))
 have KC127 : Keep h0 h111 [] := KC126.trans K111 (allS (Or.inr (by omega)) (all0))
 have KC128 : Keep h0 h112 [] := KC127.trans K112 (all0)
 have KC129 : Keep h0 T113.heap [] := KC128.trans K113 (allS (Or.inr (by omega)) (all0))
 obtain ⟨fs, hr, hrun, hended, hW, hsame⟩ := X113.leave (v := some (.ref b112)) (fun h => by rw [Bd.returns] at h; cases h)
 refine ⟨_, _, pre102 _ ?_, hrun, hended, _, _, rfl, ?_, ⟨_, rfl⟩, hW, hsame.mono (by decide) (by decide)⟩
 ·skip
  refine st103 _ ?_
  show SS p e below T103 m 1646 #[vI p1, vI p2, vI p3, vI p4, vI 97, .unset] [(.ref b101)] _
  refine XS.dup X103.here hx rfl (hb hby d35_1646) rfl rfl ?_
  refine XS.sipush X103.here hx rfl (hb hby d35_1647) ?_
  refine XS.iloadN X103.here hx rfl (hb hby d35_1650) rfl ?_
  show SS p e below T103 m 1651 #[vI p1, vI p2, vI p3, vI p4, vI 97, .unset] [(.int p1), (.int 253), (.ref b101), (.ref b101)] _
  refine st105 _ ?_
  refine XS.dup X105.here hx rfl (hb hby d35_1652) rfl rfl ?_
  refine XS.sipush X105.here hx rfl (hb hby d35_1653) ?_
  refine XS.iloadN X105.here hx rfl (hb hby d35_1656) rfl ?_
  show SS p e below T105 m 1657 #[vI p1, vI p2, vI p3, vI p4, vI 97, .unset] [(.int p2), (.int 254), (.ref b101), (.ref b101)] _
  refine st107 _ ?_
  refine XS.dup X107.here hx rfl (hb hby d35_1658) rfl rfl ?_
  refine XS.sipush X107.here hx rfl (hb hby d35_1659) ?_
  refine XS.iloadN X107.here hx rfl (hb hby d35_1662) rfl ?_
  show SS p e below T107 m 1663 #[vI p1, vI p2, vI p3, vI p4, vI 97, .unset] [(.int p3), (.int 255), (.ref b101), (.ref b101)] _
  refine st109 _ ?_
  refine XS.dup X109.here hx rfl (hb hby d35_1664) rfl rfl ?_
  refine XS.sipush X109.here hx rfl (hb hby d35_1665) ?_
  refine XS.iloadN X109.here hx rfl (hb hby d35_1668) rfl ?_
  show SS p e below T109 m 1669 #[vI p1, vI p2, vI p3, vI p4, vI 97, .unset] [(.int p4), (.int 256), (.ref b101), (.ref b101)] _
  refine st111 _ ?_
  refine XS.astore X111.here hx rfl (hb hby d35_1670) rfl rfl (l' := #[vI p1, vI p2, vI p3, vI p4, vI 97, vR b101]) rfl ?_
  show SS p e below T111 m 1672 #[vI p1, vI p2, vI p3, vI p4, vI 97, vR b101] [] _
  refine st112 _ ?_
  refine XS.dup X112.here hx rfl (hb hby d35_1675) rfl rfl ?_
  refine XS.aload X112.here hx rfl (hb hby d35_1676) rfl rfl ?_
  show SS p e below T112 m 1678 #[vI p1, vI p2, vI p3, vI p4, vI 97, vR b101] [(.ref b101), (.ref b112), (.ref b112)] _
  refine st113.trans ?_
  show SS p e below T113 m 1681 #[vI p1, vI p2, vI p3, vI p4, vI 97, vR b101] [(.ref b112)] _
  exact X113.areturnOut hx rfl Bd.returns rfl (hb hby d35_1681) hr
 ·show Q_rmLongL Z p1 p2 p3 p4 cs h0 n0 _ T113.heap _
  exact ⟨_, _, _, rfl, N113, KC129, (by omega), E113, Vf113, C113, (by omega), (by rw [hlen]; exact Av113)⟩
theorem ef_rmLongU (m : MethodId) (y0 : Int32) (y1 : Int32) (y2 : Int32) (y3 : Int32) : entryFrame m #[(.int y0), (.int y1), (.int y2), (.int y3)] 6 = (mkF m 0 #[vI y0, vI y1, vI y2, vI y3, .unset, .unset] []) := by first | (simp [entryFrame, mkF, argsToLocals, Value.category]; done) | rfl
def Q_rmLongU (Z : State) (p1 : Int32) (p2 : Int32) (p3 : Int32) (p4 : Int32) (cs0 : Int32) (m1 : Nat) (h0 : Heap) (n0 : Nat) (v : Option Value) (h : Heap) (L : List Loc) : Prop := ∃ (x t : Addr) (kb : ClassId), v = some (.ref x) ∧ Fr n0 L ∧ Keep h0 h [] ∧ h0.size ≤ x ∧ Exa Z h x "java/lang/String" ∧ Fld Z h x "java/lang/String" "value" "[B" (.ref t) ∧ Fld Z h x "java/lang/String" "coder" "B" (.int 1) ∧ @Ne Nat t x ∧ Arv Z h t kb .byte (Int32.ofNat (2 * (longL p1 p2 p3 p4).length)) (u16 (longL p1 p2 p3 p4)) (.int 0)
set_option maxRecDepth 65536 in
set_option maxHeartbeats 40000000 in
theorem rmLongU (l : Launch) (Z : State) (a0 : Array Value) (hw : ∀ d ∈ tables_1, d.before a0 Z = true) (ws : List Jvm.Cond) (p1 : Int32) (p2 : Int32) (p3 : Int32) (p4 : Int32) (cs0 : Int32) (m1 : Nat) (h0 : Heap) (n0 : Nat) (O0 : Old Z n0 h0) (S_CS : SCS Z cs0) (c_CS : ¬ (cs0 = (0 : Int32))) (S_AD : SAD Z) (S_HI : SHI Z) (S_LO : SLO Z) (r1 : ¬ p1 < 0 ∧ ¬ (65535 : Int32) < p1) (r2 : ¬ p2 < 0 ∧ ¬ (65535 : Int32) < p2) (r3 : ¬ p3 < 0 ∧ ¬ (65535 : Int32) < p3) (r4 : ¬ p4 < 0 ∧ ¬ (65535 : Int32) < p4) (hcs : ∀ c ∈ (longL p1 p2 p3 p4), ¬ c < 0 ∧ ¬ (65535 : Int32) < c) (hj : m1 < (longL p1 p2 p3 p4).length) (hpre : ∀ j, j < m1 → ¬ ((255 : Int32) < (longL p1 p2 p3 p4).getD j 0)) (hend : (255 : Int32) < ((longL p1 p2 p3 p4).getD m1 0)) :
  MetFree l mN38 (head1 (Jvm.Cond.code mN38 method_5_code 6 (some (.object "java/lang/String")) :: ws) (Rm 6 4 1300 190)) (fun a U => a = #[(.int p1), (.int p2), (.int p3), (.int p4)] ∧ Z.Warmed39 U.vm ∧ U.heap = h0) (fun _ _ _ _ _ => True) (fun _ U o U' => ∃ v L, o = .returned v ∧ Q_rmLongU Z p1 p2 p3 p4 cs0 m1 h0 n0 v U'.heap L ∧ FrameEnd U o U' L (Rm 6 4 1300 190).cells (Rm 6 4 1300 190).slots) := by
 refine MetFree.of_bodySF (plainFor_of_name pn_35) hisR ?_
 intro p e s m args below meth c s₁ Bd hml0 hP hK
 obtain ⟨rfl, hZ, hh⟩ := hP
 have hx := Bd.exec
 have hby := Bd.bytes
 have hml : c.maxLocals = 6 := hml0
 have hown : s.vm.findClass "com/example/coterie/coterie/job/JobIsWellFormedKeyPinLaw" = some m.cls := findClass_of_methodNamed Bd.named
 have hnm := (name_of_methodNamed Bd.named Bd.method).1
 have X0 : Stand p l e (Rm 6 4 1300 190) s m #[(.int p1), (.int p2), (.int p3), (.int p4)] below meth c s₁ [] 0 0 := Stand.of_body Bd
 have e0 : s₁.heap = h0 := by rw [← hh, Bd.state]; rfl
 have N0 := Fr.nil n0
 have hn0 : n0 ≤ h0.size := O0.1 ▸ O0.2.1
 have pre0 : ∀ t, SS p e below s₁ m 0 #[vI p1, vI p2, vI p3, vI p4, .unset, .unset] [] t → Steps p.tables e below (s₁.setTop (entryFrame m #[(.int p1), (.int p2), (.int p3), (.int p4)] 6)) t := fun t k => castTop (ef_rmLongU m p1 p2 p3 p4) k
 obtain ⟨T101, h101, k101, X101, e101, E101, A101, st101⟩ := newP X0 hx hZ (tw hw 12 rfl) e0 (g := (mkF m 7 #[vI p1, vI p2, vI p3, vI p4, vI 97, .unset] [(.int 257)])) rfl (hb hby d35_7) rfl (by decide) (cap := 257) (by decide) (by decide) (by decide) (by decide)
 obtain ⟨b101, g101⟩ : ∃ z, z = h0.size := ⟨_, rfl⟩
 rw [← g101] at A101 st101
 have V101 : Arv Z h101 b101 k101 .char (257 : Int32) [] (.int 0) := Arv.new A101 (by decide)
 have lt101 : @LT.lt Nat _ b101 h101.size := V101.lt
 have K101 : Keep h0 h101 [] := (Keep.refl _ _).ext E101
 have sz1_K101 := K101.1
 have pre102 : ∀ t, SS p e below T101 m 9 #[vI p1, vI p2, vI p3, vI p4, vI 97, .unset] [(.ref b101)] t → Steps p.tables e below (s₁.setTop (entryFrame m #[(.int p1), (.int p2), (.int p3), (.int p4)] 6)) t := by
  intro t kt
  refine pre0 _ ?_
  show SS p e below s₁ m 0 #[vI p1, vI p2, vI p3, vI p4, .unset, .unset] [] _
  refine XS.bipush X0.here hx rfl (hb hby d35_0) ?_
  refine XS.istore X0.here hx rfl (hb hby d35_2) rfl (l' := #[vI p1, vI p2, vI p3, vI p4, vI 97, .unset]) rfl ?_
  refine XS.sipush X0.here hx rfl (hb hby d35_4) ?_
  show SS p e below s₁ m 7 #[vI p1, vI p2, vI p3, vI p4, vI 97, .unset] [(.int 257)] _
  refine st101 _ ?_
  exact kt
 obtain ⟨T103, h103, L103, X103, e103, N103, K103, V103, st103⟩ := lpFill p1 p2 p3 p4 b101 k101 X101 hx hZ hby e101 N0 (by omega : @LE.le Nat _ n0 b101) (V101.pad (pad_rep [] (.int 0) 257)) 253 (Nat.le_refl _)
 have sz2_K103 := K103.1
 obtain ⟨cl104, Ar104, q104, S104, Nn104, H104, G104⟩ := id V103
 obtain ⟨T105, h105, X105, e105, W105, st105⟩ := stC X103 hx hZ e103 Ar104 (j := (253 : Int32)) (inb_of S104 ⟨by decide, by decide⟩) (g := (mkF m 1651 #[vI p1, vI p2, vI p3, vI p4, vI 97, .unset] [(.int p1), (.int 253), (.ref b101), (.ref b101)])) rfl rfl (hb hby d35_1651)
 rw [own_nc r1] at W105
 have V105 : Arv Z h105 b101 k101 .char (257 : Int32) ((fillL 253).set 253 (.int p1)) (.int 0) := Arv.set Ar104 q104 S104 Nn104 H104 G104 (own_fitc r1) W105 253 (by decide) (by rw [fillL_len (by decide)]; decide)
 have K105 := Keep.of_wr W105
 have N105 := Fr.snoc X105 N103 (by omega : @LE.le Nat _ n0 b101)
 have sz3_K105 := K105.1
 obtain ⟨cl106, Ar106, q106, S106, Nn106, H106, G106⟩ := id V105
 obtain ⟨T107, h107, X107, e107, W107, st107⟩ := stC X105 hx hZ e105 Ar106 (j := (254 : Int32)) (inb_of S106 ⟨by decide, by decide⟩) (g := (mkF m 1657 #[vI p1, vI p2, vI p3, vI p4, vI 97, .unset] [(.int p2), (.int 254), (.ref b101), (.ref b101)])) rfl rfl (hb hby d35_1657)
 rw [own_nc r2] at W107
 have V107 : Arv Z h107 b101 k101 .char (257 : Int32) (((fillL 253).set 253 (.int p1)).set 254 (.int p2)) (.int 0) := Arv.set Ar106 q106 S106 Nn106 H106 G106 (own_fitc r2) W107 254 (by decide) (by simp only [List.length_set]; rw [fillL_len (by decide)]; decide)
 have K107 := Keep.of_wr W107
 have N107 := Fr.snoc X107 N105 (by omega : @LE.le Nat _ n0 b101)
 have sz4_K107 := K107.1
 obtain ⟨cl108, Ar108, q108, S108, Nn108, H108, G108⟩ := id V107
 obtain ⟨T109, h109, X109, e109, W109, st109⟩ := stC X107 hx hZ e107 Ar108 (j := (255 : Int32)) (inb_of S108 ⟨by decide, by decide⟩) (g := (mkF m 1663 #[vI p1, vI p2, vI p3, vI p4, vI 97, .unset] [(.int p3), (.int 255), (.ref b101), (.ref b101)])) rfl rfl (hb hby d35_1663)
 rw [own_nc r3] at W109
 have V109 : Arv Z h109 b101 k101 .char (257 : Int32) ((((fillL 253).set 253 (.int p1)).set 254 (.int p2)).set 255 (.int p3)) (.int 0) := Arv.set Ar108 q108 S108 Nn108 H108 G108 (own_fitc r3) W109 255 (by decide) (by simp only [List.length_set]; rw [fillL_len (by decide)]; decide)
 have K109 := Keep.of_wr W109
 have N109 := Fr.snoc X109 N107 (by omega : @LE.le Nat _ n0 b101)
 have sz5_K109 := K109.1
 obtain ⟨cl110, Ar110, q110, S110, Nn110, H110, G110⟩ := id V109
 obtain ⟨T111, h111, X111, e111, W111, st111⟩ := stC X109 hx hZ e109 Ar110 (j := (256 : Int32)) (inb_of S110 ⟨by decide, by decide⟩) (g := (mkF m 1669 #[vI p1, vI p2, vI p3, vI p4, vI 97, .unset] [(.int p4), (.int 256), (.ref b101), (.ref b101)])) rfl rfl (hb hby d35_1669)
 rw [own_nc r4] at W111
 have V111 : Arv Z h111 b101 k101 .char (257 : Int32) (((((fillL 253).set 253 (.int p1)).set 254 (.int p2)).set 255 (.int p3)).set 256 (.int p4)) (.int 0) := Arv.set Ar110 q110 S110 Nn110 H110 G110 (own_fitc r4) W111 256 (by decide) (by simp only [List.length_set]; rw [fillL_len (by decide)]; decide)
 have K111 := Keep.of_wr W111
 have N111 := Fr.snoc X111 N109 (by omega : @LE.le Nat _ n0 b101)
 rw [longL_eq p1 p2 p3 p4] at V111
 have sz6_K111 := K111.1
 have VL112 : Arv Z h111 b101 k101 .char (Int32.ofNat (longL p1 p2 p3 p4).length) ((longL p1 p2 p3 p4).map Value.int) (.int 0) := by rw [longL_len]; exact V111
 obtain ⟨T113, h113, X113, e113, E113, A113, D113, -, st113⟩ := newO X111 hx hZ hown (tw hw 9 rfl) (tw hw 10 rfl) (tw hw 11 rfl) e111 (g := (mkF m 1672 #[vI p1, vI p2, vI p3, vI p4, vI 97, vR b101] [])) rfl (hb hby d35_1672) (by decide) (by decide)
 obtain ⟨b113, g113⟩ : ∃ z, z = h111.size := ⟨_, rfl⟩
 rw [← g113] at A113 D113 st113
 have lt113 : @LT.lt Nat _ b113 h113.size := A113.lt
 have K113 : Keep h111 h113 [] := (Keep.refl _ _).ext E113
 have sz7_K113 := K113.1
 have F113_value : Fld Z h113 b113 "java/lang/String" "value" "[B" .null := D113 (Or.inr (tw hw 25 rfl)) (ty := (.array .byte)) (by decide)
 have F113_coder : Fld Z h113 b113 "java/lang/String" "coder" "B" (.int 0) := D113 (Or.inr (tw hw 26 rfl)) (ty := .byte) (by decide)
 have C115 := VL112.keep K113 nin0
 have O116 : Old Z n0 h101 := O0.keep K101 all0
 have O117 : Old Z n0 h103 := O116.keep K103 (allS (by omega) (all0))
 have O118 : Old Z n0 h105 := O117.keep K105 (allS (by omega) (all0))
 have O119 : Old Z n0 h107 := O118.keep K107 (allS (by omega) (all0))
 have O120 : Old Z n0 h109 := O119.keep K109 (allS (by omega) (all0))
 have O121 : Old Z n0 h111 := O120.keep K111 (allS (by omega) (all0))
 have O122 : Old Z n0 h113 := O121.keep K113 all0
 obtain ⟨_, _, ⟨T114, L114, k114, n114⟩, -, X114, ⟨Lc114, hQ114, l114, y114, z114⟩, st114⟩ := X113.specialBack hx (y := mN9) rfl hown (mvT hZ (tw hw 13 rfl)) (mvT hZ (tw hw 14 rfl)) (mvT hZ (tw hw 15 rfl)) (by decide) (backOf (W := 1) (rmInit1U l Z a0 hw [] b113 b101 (longL p1 p2 p3 p4) k101 (.int 0) m1 cs0 h113 n0 O122 S_CS c_CS S_AD S_HI S_LO C115 (by rw [longL_len]; decide) hcs hj hpre hend (by omega : @LE.le Nat _ n0 b113) A113 F113_value F113_coder (by omega)) hZ (tw hw 15 rfl) (tw hw 11 rfl) (by decide) (by decide)) (g := (mkF m 1678 #[vI p1, vI p2, vI p3, vI p4, vI 97, vR b101] [(.ref b101), (.ref b113), (.ref b113)])) rfl (by rw [hml]; rfl) (Steps.refl _) (a := b113) (argsL := [(.ref b101)]) (rest := [(.ref b113)]) (lenOf pd_2 rfl) rfl (by show 2 * 0 + _ ≤ _; exact Nat.le_of_eq rfl) (hb hby d35_1678) (fun _ _ => ⟨rfl, e113, (by decide : 2 + 2 ≤ _), (by decide : 261 + 771 ≤ _)⟩)
 dsimp only [Pt.U, Pt.locs, Pt.cells, Pt.slots] at X114 l114 y114 z114 st114 hQ114
 subst l114 y114 z114
 obtain ⟨t114, kb114, rfl, N114q, K114, E114, Fv114, Fc114, gt114, tx114, V114⟩ := hQ114
 have lt114 : @LT.lt Nat _ t114 T114.heap.size := V114.lt
 have sz8_K114 := K114.1
 have N114 := Fr.app N111 N114q
 have KC123 : Keep h0 h101 [] := (Keep.refl h0 []).trans K101 (all0)
 have KC124 : Keep h0 h103 [] := KC123.trans K103 (allS (Or.inr (by omega)) (all0))
 have KC125 : Keep h0 h105 [] := KC124.trans K105 (allS (Or.inr (by omega)) (all0))
 have KC126 : Keep h0 h107 [] := KC125.trans K107 (allS (Or.inr (by omega)) (all0))
 have KC127 : Keep h0 h109 [] := KC126.trans K109 (allS (Or.inr (by omega)) (all0))
 have KC128 : Keep h0 h111 [] := KC127.trans K111 (allS (Or.inr (by omega)) (all0))
 have KC129 : Keep h0 h113 [] := KC128.trans K113 (all0)
 have KC130 : Keep h0 T114.heap [] := KC129.trans K114 (allS (Or.inr (by omega)) (all0))
 obtain ⟨fs, hr, hrun, hended, hW, hsame⟩ := X114.leave (v := some (.ref b113)) (fun h => by rw [Bd.returns] at h; cases h)
 refine ⟨_, _, pre102 _ ?_, hrun, hended, _, _, rfl, ?_, ⟨_, rfl⟩, hW, hsame.mono (by decide) (by decide)⟩
 ·skip
  refine st103 _ ?_
  show SS p e below T103 m 1646 #[vI p1, vI p2, vI p3, vI p4, vI 97, .unset] [(.ref b101)] _
  refine XS.dup X103.here hx rfl (hb hby d35_1646) rfl rfl ?_
  refine XS.sipush X103.here hx rfl (hb hby d35_1647) ?_
  refine XS.iloadN X103.here hx rfl (hb hby d35_1650) rfl ?_
  show SS p e below T103 m 1651 #[vI p1, vI p2, vI p3, vI p4, vI 97, .unset] [(.int p1), (.int 253), (.ref b101), (.ref b101)] _
  refine st105 _ ?_
  refine XS.dup X105.here hx rfl (hb hby d35_1652) rfl rfl ?_
  refine XS.sipush X105.here hx rfl (hb hby d35_1653) ?_
  refine XS.iloadN X105.here hx rfl (hb hby d35_1656) rfl ?_
  show SS p e below T105 m 1657 #[vI p1, vI p2, vI p3, vI p4, vI 97, .unset] [(.int p2), (.int 254), (.ref b101), (.ref b101)] _
  refine st107 _ ?_
  refine XS.dup X107.here hx rfl (hb hby d35_1658) rfl rfl ?_
  refine XS.sipush X107.here hx rfl (hb hby d35_1659) ?_
  refine XS.iloadN X107.here hx rfl (hb hby d35_1662) rfl ?_
  show SS p e below T107 m 1663 #[vI p1, vI p2, vI p3, vI p4, vI 97, .unset] [(.int p3), (.int 255), (.ref b101), (.ref b101)] _
  refine st109 _ ?_
  refine XS.dup X109.here hx rfl (hb hby d35_1664) rfl rfl ?_
  refine XS.sipush X109.here hx rfl (hb hby d35_1665) ?_
  refine XS.iloadN X109.here hx rfl (hb hby d35_1668) rfl ?_
  show SS p e below T109 m 1669 #[vI p1, vI p2, vI p3, vI p4, vI 97, .unset] [(.int p4), (.int 256), (.ref b101), (.ref b101)] _
  refine st111 _ ?_
  refine XS.astore X111.here hx rfl (hb hby d35_1670) rfl rfl (l' := #[vI p1, vI p2, vI p3, vI p4, vI 97, vR b101]) rfl ?_
  show SS p e below T111 m 1672 #[vI p1, vI p2, vI p3, vI p4, vI 97, vR b101] [] _
  refine st113 _ ?_
  refine XS.dup X113.here hx rfl (hb hby d35_1675) rfl rfl ?_
  refine XS.aload X113.here hx rfl (hb hby d35_1676) rfl rfl ?_
  show SS p e below T113 m 1678 #[vI p1, vI p2, vI p3, vI p4, vI 97, vR b101] [(.ref b101), (.ref b113), (.ref b113)] _
  refine st114.trans ?_
  show SS p e below T114 m 1681 #[vI p1, vI p2, vI p3, vI p4, vI 97, vR b101] [(.ref b113)] _
  exact X114.areturnOut hx rfl Bd.returns rfl (hb hby d35_1681) hr
 ·show Q_rmLongU Z p1 p2 p3 p4 cs0 m1 h0 n0 _ T114.heap _
  exact ⟨_, _, _, rfl, N114, KC130, (by omega), E114, Fv114, Fc114, (by omega), V114⟩
theorem pn_0 : plainName "com/example/coterie/coterie/job/JobIsWellFormedKeyPinLaw" = true := by first | (simp [plainName, overriddenIn]; done) | decide +kernel
theorem pd_0 : parseMethodDescriptor "(I)C" = some ⟨[.int], some .char⟩ := by decide +kernel
theorem pd_26 : parseMethodDescriptor "(CCCC)Ljava/lang/String;" = some ⟨[.char, .char, .char, .char], some (.object "java/lang/String")⟩ := by decide +kernel
theorem pd_27 : parseMethodDescriptor "(CC)I" = some ⟨[.char, .char], some .int⟩ := by decide +kernel
theorem pd_5 : parseMethodDescriptor "(Ljava/lang/String;)Z" = some ⟨[(.object "java/lang/String")], some .boolean⟩ := by decide +kernel
theorem pd_1 : parseMethodDescriptor "(ICCCC)Ljava/lang/String;" = some ⟨[.int, .char, .char, .char, .char], some (.object "java/lang/String")⟩ := by decide +kernel
theorem ef_rm0 (m : MethodId) (y0 : Int32) (y1 : Int32) (y2 : Int32) (y3 : Int32) (y4 : Int32) : entryFrame m #[(.int y0), (.int y1), (.int y2), (.int y3), (.int y4)] maxLocals = (mkF m 0 #[vI y0, vI y1, vI y2, vI y3, vI y4, .unset, .unset, .unset, .unset, .unset, .unset, .unset, .unset] []) := by first | (simp [entryFrame, mkF, argsToLocals, Value.category, maxLocals]; done) | rfl
def Q_rm0 (Z : State) (p1 : Int32) (p2 : Int32) (p3 : Int32) (p4 : Int32) (p5 : Int32) (cs0 : Int32) (fm : Value) (h0 : Heap) (n0 : Nat) (v : Option Value) (h : Heap) (L : List Loc) : Prop := v = some (.int 1) ∧ Fr n0 L
set_option maxRecDepth 65536 in
set_option maxHeartbeats 40000000 in
theorem rm0 (l : Launch) (Z : State) (a0 : Array Value) (hw : ∀ d ∈ tables_1, d.before a0 Z = true) (ws : List Jvm.Cond) (p1 : Int32) (p2 : Int32) (p3 : Int32) (p4 : Int32) (p5 : Int32) (cs0 : Int32) (fm : Value) (h0 : Heap) (n0 : Nat) (O0 : Old Z n0 h0) (S_CS : SCS Z cs0) (c_CS : ¬ (cs0 = (0 : Int32))) (S_AD : SAD Z) (S_HI : SHI Z) (S_LO : SLO Z) (S_FM : SFM Z fm) (r_FM : fm.isRef = true) :
  MetFree l x (head1 (Jvm.Cond.code x code maxLocals ret :: ws) room_1) (fun a U => a = #[(.int p1), (.int p2), (.int p3), (.int p4), (.int p5)] ∧ Z.Warmed39 U.vm ∧ U.heap = h0 ∧ CHv Z EL1 U.vm h0) (fun _ _ _ _ _ => True) (fun _ U o U' => ∃ v L, o = .returned v ∧ Q_rm0 Z p1 p2 p3 p4 p5 cs0 fm h0 n0 v U'.heap L ∧ ReturnedEndW U o U' L room_1.cells room_1.slots) := by
 refine MetFree.of_bodySF (plainFor_of_name pn_0) hisR ?_
 intro p e s m args below meth c s₁ Bd hml0 hP hK
 obtain ⟨rfl, hZ, hh, hCH⟩ := hP
 have hx := Bd.exec
 have hby := Bd.bytes
 have hml : c.maxLocals = 13 := hml0
 have hown : s.vm.findClass "com/example/coterie/coterie/job/JobIsWellFormedKeyPinLaw" = some m.cls := findClass_of_methodNamed Bd.named
 have hnm := (name_of_methodNamed Bd.named Bd.method).1
 have X0 : Stand p l e room_1 s m #[(.int p1), (.int p2), (.int p3), (.int p4), (.int p5)] below meth c s₁ [] 0 0 := Stand.of_body Bd
 have e0 : s₁.heap = h0 := by rw [← hh, Bd.state]; rfl
 have N0 := Fr.nil n0
 have hn0 : n0 ≤ h0.size := O0.1 ▸ O0.2.1
 have hS0 : s.Since s.vm h0.size := (State.WarmedH.refl s).since _
 have pre0 : ∀ t, SS p e below s₁ m 0 #[vI p1, vI p2, vI p3, vI p4, vI p5, .unset, .unset, .unset, .unset, .unset, .unset, .unset, .unset] [] t → Steps p.tables e below (s₁.setTop (entryFrame m #[(.int p1), (.int p2), (.int p3), (.int p4), (.int p5)] maxLocals)) t := fun t k => castTop (ef_rm0 m p1 p2 p3 p4 p5) k
 have wStr : ∀ d ∈ Bundle.stringAtoms, d.before a0 Z = true := fun d hd => hw d ((by decide +kernel : ∀ d ∈ Bundle.stringAtoms, d ∈ tables_1) d hd)
 have hEW : EW Z a0 EL1 := EW.cons (tw hw 23 rfl) (by decide) EW.nil
 obtain ⟨_, _, ⟨T101, L101, k101, n101⟩, -, X101, ⟨Lc101, hQ101, l101, y101, z101⟩, st101⟩ := Jvm.LawKit.callS X0 hx (y := mN35) hown (mvT hZ (tw hw 0 rfl)) (mvT hZ (tw hw 1 rfl)) (mvT hZ (tw hw 2 rfl)) (mvT hZ (tw hw 3 rfl)) (by decide) (backOf (W := 0) (rmPick l Z a0 hw [] p2  h0 n0 O0 ) hZ (tw hw 3 rfl) (tw hw 2 rfl) (by decide) (by decide)) (g := (mkF m 1 #[vI p1, vI p2, vI p3, vI p4, vI p5, .unset, .unset, .unset, .unset, .unset, .unset, .unset, .unset] [(.int p2)])) rfl (by rw [hml]; rfl) (argsL := [(.int p2)]) (rest := []) (lenOf pd_0 rfl) rfl (by show 2 * 0 + _ ≤ _; exact Nat.le_of_eq rfl) (hb hby at_1) (fun _ _ => ⟨rfl, e0, (by decide : 0 + 0 ≤ _), (by decide : 0 + 0 ≤ _)⟩)
 dsimp only [Pt.U, Pt.locs, Pt.cells, Pt.slots] at X101 l101 y101 z101 st101 hQ101
 subst l101 y101 z101
 obtain ⟨c101, rfl, N101q, H101, r101⟩ := hQ101
 have N101 := Fr.app N0 N101q
 obtain ⟨_, _, ⟨T102, L102, k102, n102⟩, -, X102, ⟨Lc102, hQ102, l102, y102, z102⟩, st102⟩ := Jvm.LawKit.callS X101 hx (y := mN35) hown (mvT hZ (tw hw 0 rfl)) (mvT hZ (tw hw 1 rfl)) (mvT hZ (tw hw 2 rfl)) (mvT hZ (tw hw 3 rfl)) (by decide) (backOf (W := 0) (rmPick l Z a0 hw [] p3  h0 n0 O0 ) hZ (tw hw 3 rfl) (tw hw 2 rfl) (by decide) (by decide)) (g := (mkF m 7 #[vI p1, vI p2, vI p3, vI p4, vI p5, vI c101, .unset, .unset, .unset, .unset, .unset, .unset, .unset] [(.int p3)])) rfl (by rw [hml]; rfl) (argsL := [(.int p3)]) (rest := []) (lenOf pd_0 rfl) rfl (by show 2 * 0 + _ ≤ _; exact Nat.le_of_eq rfl) (hb hby at_7) (fun _ _ => ⟨rfl, H101, (by decide : 0 + 0 ≤ _), (by decide : 0 + 0 ≤ _)⟩)
 dsimp only [Pt.U, Pt.locs, Pt.cells, Pt.slots] at X102 l102 y102 z102 st102 hQ102
 subst l102 y102 z102
 obtain ⟨c102, rfl, N102q, H102, r102⟩ := hQ102
 have N102 := Fr.app N101 N102q
 obtain ⟨_, _, ⟨T103, L103, k103, n103⟩, -, X103, ⟨Lc103, hQ103, l103, y103, z103⟩, st103⟩ := Jvm.LawKit.callS X102 hx (y := mN35) hown (mvT hZ (tw hw 0 rfl)) (mvT hZ (tw hw 1 rfl)) (mvT hZ (tw hw 2 rfl)) (mvT hZ (tw hw 3 rfl)) (by decide) (backOf (W := 0) (rmPick l Z a0 hw [] p4  h0 n0 O0 ) hZ (tw hw 3 rfl) (tw hw 2 rfl) (by decide) (by decide)) (g := (mkF m 13 #[vI p1, vI p2, vI p3, vI p4, vI p5, vI c101, vI c102, .unset, .unset, .unset, .unset, .unset, .unset] [(.int p4)])) rfl (by rw [hml]; rfl) (argsL := [(.int p4)]) (rest := []) (lenOf pd_0 rfl) rfl (by show 2 * 0 + _ ≤ _; exact Nat.le_of_eq rfl) (hb hby at_13) (fun _ _ => ⟨rfl, H102, (by decide : 0 + 0 ≤ _), (by decide : 0 + 0 ≤ _)⟩)
 dsimp only [Pt.U, Pt.locs, Pt.cells, Pt.slots] at X103 l103 y103 z103 st103 hQ103
 subst l103 y103 z103
 obtain ⟨c103, rfl, N103q, H103, r103⟩ := hQ103
 have N103 := Fr.app N102 N103q
 obtain ⟨_, _, ⟨T104, L104, k104, n104⟩, -, X104, ⟨Lc104, hQ104, l104, y104, z104⟩, st104⟩ := Jvm.LawKit.callS X103 hx (y := mN35) hown (mvT hZ (tw hw 0 rfl)) (mvT hZ (tw hw 1 rfl)) (mvT hZ (tw hw 2 rfl)) (mvT hZ (tw hw 3 rfl)) (by decide) (backOf (W := 0) (rmPick l Z a0 hw [] p5  h0 n0 O0 ) hZ (tw hw 3 rfl) (tw hw 2 rfl) (by decide) (by decide)) (g := (mkF m 20 #[vI p1, vI p2, vI p3, vI p4, vI p5, vI c101, vI c102, vI c103, .unset, .unset, .unset, .unset, .unset] [(.int p5)])) rfl (by rw [hml]; rfl) (argsL := [(.int p5)]) (rest := []) (lenOf pd_0 rfl) rfl (by show 2 * 0 + _ ≤ _; exact Nat.le_of_eq rfl) (hb hby at_20) (fun _ _ => ⟨rfl, H103, (by decide : 0 + 0 ≤ _), (by decide : 0 + 0 ≤ _)⟩)
 dsimp only [Pt.U, Pt.locs, Pt.cells, Pt.slots] at X104 l104 y104 z104 st104 hQ104
 subst l104 y104 z104
 obtain ⟨c104, rfl, N104q, H104, r104⟩ := hQ104
 have N104 := Fr.app N103 N104q
 have pre106 : ∀ t, SS p e below T104 m 34 #[vI p1, vI p2, vI p3, vI p4, vI p5, vI c101, vI c102, vI c103, vI c104, vI (p1 &&& (7 : Int32)), .unset, .unset, .unset] [(.int 4), (.int (p1 &&& (7 : Int32)))] t → Steps p.tables e below (s₁.setTop (entryFrame m #[(.int p1), (.int p2), (.int p3), (.int p4), (.int p5)] maxLocals)) t := by
  intro t kt
  refine pre0 _ ?_
  show SS p e below s₁ m 0 #[vI p1, vI p2, vI p3, vI p4, vI p5, .unset, .unset, .unset, .unset, .unset, .unset, .unset, .unset] [] _
  refine XS.iloadN X0.here hx rfl (hb hby at_0) rfl ?_
  show SS p e below s₁ m 1 #[vI p1, vI p2, vI p3, vI p4, vI p5, .unset, .unset, .unset, .unset, .unset, .unset, .unset, .unset] [(.int p2)] _
  refine st101 _ ?_
  refine XS.istore X101.here hx rfl (hb hby at_4) rfl (l' := #[vI p1, vI p2, vI p3, vI p4, vI p5, vI c101, .unset, .unset, .unset, .unset, .unset, .unset, .unset]) rfl ?_
  refine XS.iloadN X101.here hx rfl (hb hby at_6) rfl ?_
  show SS p e below T101 m 7 #[vI p1, vI p2, vI p3, vI p4, vI p5, vI c101, .unset, .unset, .unset, .unset, .unset, .unset, .unset] [(.int p3)] _
  refine st102 _ ?_
  refine XS.istore X102.here hx rfl (hb hby at_10) rfl (l' := #[vI p1, vI p2, vI p3, vI p4, vI p5, vI c101, vI c102, .unset, .unset, .unset, .unset, .unset, .unset]) rfl ?_
  refine XS.iloadN X102.here hx rfl (hb hby at_12) rfl ?_
  show SS p e below T102 m 13 #[vI p1, vI p2, vI p3, vI p4, vI p5, vI c101, vI c102, .unset, .unset, .unset, .unset, .unset, .unset] [(.int p4)] _
  refine st103 _ ?_
  refine XS.istore X103.here hx rfl (hb hby at_16) rfl (l' := #[vI p1, vI p2, vI p3, vI p4, vI p5, vI c101, vI c102, vI c103, .unset, .unset, .unset, .unset, .unset]) rfl ?_
  refine XS.iload X103.here hx rfl (hb hby at_18) rfl ?_
  show SS p e below T103 m 20 #[vI p1, vI p2, vI p3, vI p4, vI p5, vI c101, vI c102, vI c103, .unset, .unset, .unset, .unset, .unset] [(.int p5)] _
  refine st104 _ ?_
  refine XS.istore X104.here hx rfl (hb hby at_23) rfl (l' := #[vI p1, vI p2, vI p3, vI p4, vI p5, vI c101, vI c102, vI c103, vI c104, .unset, .unset, .unset, .unset]) rfl ?_
  refine XS.iloadN X104.here hx rfl (hb hby at_25) rfl ?_
  refine XS.bipush X104.here hx rfl (hb hby at_26) ?_
  refine XS.iand X104.here hx rfl (hb hby at_28) rfl ?_
  refine XS.istore X104.here hx rfl (hb hby at_29) rfl (l' := #[vI p1, vI p2, vI p3, vI p4, vI p5, vI c101, vI c102, vI c103, vI c104, vI (p1 &&& (7 : Int32)), .unset, .unset, .unset]) rfl ?_
  refine XS.iload X104.here hx rfl (hb hby at_31) rfl ?_
  refine XS.iconst X104.here hx rfl (hb hby at_33) ?_
  exact kt
 by_cases hc105 : (4 : Int32) < (p1 &&& (7 : Int32))
 ·skip
  have hcs : ∀ c ∈ (longL c101 c102 c103 c104), ¬ c < 0 ∧ ¬ (65535 : Int32) < c := own_longMem (P := fun c => ¬ c < 0 ∧ ¬ (65535 : Int32) < c) (by decide) r101 r102 r103 r104
  have pre107 : ∀ t, SS p e below T104 m 111 #[vI p1, vI p2, vI p3, vI p4, vI p5, vI c101, vI c102, vI c103, vI c104, vI (p1 &&& (7 : Int32)), .unset, .unset, .unset] [] t → Steps p.tables e below (s₁.setTop (entryFrame m #[(.int p1), (.int p2), (.int p3), (.int p4), (.int p5)] maxLocals)) t := by
   intro t kt
   refine pre106 _ ?_
   show SS p e below T104 m 34 #[vI p1, vI p2, vI p3, vI p4, vI p5, vI c101, vI c102, vI c103, vI c104, vI (p1 &&& (7 : Int32)), .unset, .unset, .unset] [(.int 4), (.int (p1 &&& (7 : Int32)))] _
   refine XS.icmpYes X104.here hx rfl (pc0 := 34) (pc' := 111) rfl (hb hby at_34) rfl (tlt hc105).2.2.1 (by decide) (by decide) ?_
   exact kt
  rcases own_big (longL c101 c102 c103 c104) with hL | ⟨m1, hj, hpre, hend⟩
  ·skip
   obtain ⟨_, _, ⟨T108, L108, k108, n108⟩, -, X108, ⟨Lc108, hQ108, l108, y108, z108⟩, st108⟩ := Jvm.LawKit.callS X104 hx (y := mN38) hown (mvT hZ (tw hw 149 rfl)) (mvT hZ (tw hw 150 rfl)) (mvT hZ (tw hw 2 rfl)) (mvT hZ (tw hw 151 rfl)) (by decide) (backOf (W := 0) (rmLongL l Z a0 hw [] c101 c102 c103 c104 cs0 h0 n0 O0 S_CS c_CS r101 r102 r103 r104 (own_rngL hcs hL)) hZ (tw hw 151 rfl) (tw hw 2 rfl) (by decide) (by decide)) (g := (mkF m 119 #[vI p1, vI p2, vI p3, vI p4, vI p5, vI c101, vI c102, vI c103, vI c104, vI (p1 &&& (7 : Int32)), .unset, .unset, .unset] [(.int c104), (.int c103), (.int c102), (.int c101)])) rfl (by rw [hml]; rfl) (argsL := [(.int c101), (.int c102), (.int c103), (.int c104)]) (rest := []) (lenOf pd_26 rfl) rfl (by show 2 * 0 + _ ≤ _; exact Nat.le_of_eq rfl) (hb hby at_119) (fun _ _ => ⟨rfl, H104, (by decide : 0 + 4 ≤ _), (by decide : 0 + 1300 ≤ _)⟩)
   dsimp only [Pt.U, Pt.locs, Pt.cells, Pt.slots] at X108 l108 y108 z108 st108 hQ108
   subst l108 y108 z108
   obtain ⟨x108, t108, kb108, rfl, N108q, K108, gx108, E108, Fv108, Fc108, tx108, V108⟩ := hQ108
   have ltx108 : @LT.lt Nat _ x108 T108.heap.size := E108.lt
   have ltt108 : @LT.lt Nat _ t108 T108.heap.size := V108.lt
   have sz1_K108 := K108.1
   have N108 := Fr.app N104 N108q
   have O110 : Old Z n0 T108.heap := O0.keep K108 all0
   obtain ⟨_, _, ⟨T109, L109, k109, n109⟩, -, X109, ⟨Lc109, hQ109, l109, y109, z109⟩, st109⟩ := Jvm.LawKit.callS X108 hx (y := mN36) hown (mvT hZ (tw hw 152 rfl)) (mvT hZ (tw hw 153 rfl)) (mvT hZ (tw hw 2 rfl)) (mvT hZ (tw hw 154 rfl)) (by decide) (backOf (W := 1) (rmPair l Z a0 hw [] c101 c102  T108.heap n0 O110 ) hZ (tw hw 154 rfl) (tw hw 2 rfl) (by decide) (by decide)) (g := (mkF m 131 #[vI p1, vI p2, vI p3, vI p4, vI p5, vI c101, vI c102, vI c103, vI c104, vI (p1 &&& (7 : Int32)), vR x108, .unset, .unset] [(.int c102), (.int c101), (.int 257)])) rfl (by rw [hml]; rfl) (argsL := [(.int c101), (.int c102)]) (rest := [(.int 257)]) (lenOf pd_27 rfl) rfl (by show 2 * 0 + _ ≤ _; exact Nat.le_of_eq rfl) (hb hby at_131) (fun _ _ => ⟨rfl, rfl, (by decide : 4 + 0 ≤ _), (by decide : 1300 + 0 ≤ _)⟩)
   dsimp only [Pt.U, Pt.locs, Pt.cells, Pt.slots] at X109 l109 y109 z109 st109 hQ109
   subst l109 y109 z109
   obtain ⟨rfl, N109q, H109⟩ := hQ109
   have N109 := Fr.app N108 N109q
   obtain ⟨_, _, ⟨T111, L111, k111, n111⟩, -, X111, ⟨Lc111, hQ111, l111, y111, z111⟩, st111⟩ := Jvm.LawKit.callS X109 hx (y := mN36) hown (mvT hZ (tw hw 152 rfl)) (mvT hZ (tw hw 153 rfl)) (mvT hZ (tw hw 2 rfl)) (mvT hZ (tw hw 154 rfl)) (by decide) (backOf (W := 1) (rmPair l Z a0 hw [] c102 c103  T108.heap n0 O110 ) hZ (tw hw 154 rfl) (tw hw 2 rfl) (by decide) (by decide)) (g := (mkF m 139 #[vI p1, vI p2, vI p3, vI p4, vI p5, vI c101, vI c102, vI c103, vI c104, vI (p1 &&& (7 : Int32)), vR x108, .unset, .unset] [(.int c103), (.int c102), (.int ((257 : Int32) - (prI c101 c102)))])) rfl (by rw [hml]; rfl) (argsL := [(.int c102), (.int c103)]) (rest := [(.int ((257 : Int32) - (prI c101 c102)))]) (lenOf pd_27 rfl) rfl (by show 2 * 0 + _ ≤ _; exact Nat.le_of_eq rfl) (hb hby at_139) (fun _ _ => ⟨rfl, H109, (by decide : 4 + 0 ≤ _), (by decide : 1300 + 0 ≤ _)⟩)
   dsimp only [Pt.U, Pt.locs, Pt.cells, Pt.slots] at X111 l111 y111 z111 st111 hQ111
   subst l111 y111 z111
   obtain ⟨rfl, N111q, H111⟩ := hQ111
   have N111 := Fr.app N109 N111q
   obtain ⟨_, _, ⟨T112, L112, k112, n112⟩, -, X112, ⟨Lc112, hQ112, l112, y112, z112⟩, st112⟩ := Jvm.LawKit.callS X111 hx (y := mN36) hown (mvT hZ (tw hw 152 rfl)) (mvT hZ (tw hw 153 rfl)) (mvT hZ (tw hw 2 rfl)) (mvT hZ (tw hw 154 rfl)) (by decide) (backOf (W := 1) (rmPair l Z a0 hw [] c103 c104  T108.heap n0 O110 ) hZ (tw hw 154 rfl) (tw hw 2 rfl) (by decide) (by decide)) (g := (mkF m 147 #[vI p1, vI p2, vI p3, vI p4, vI p5, vI c101, vI c102, vI c103, vI c104, vI (p1 &&& (7 : Int32)), vR x108, .unset, .unset] [(.int c104), (.int c103), (.int (((257 : Int32) - (prI c101 c102)) - (prI c102 c103)))])) rfl (by rw [hml]; rfl) (argsL := [(.int c103), (.int c104)]) (rest := [(.int (((257 : Int32) - (prI c101 c102)) - (prI c102 c103)))]) (lenOf pd_27 rfl) rfl (by show 2 * 0 + _ ≤ _; exact Nat.le_of_eq rfl) (hb hby at_147) (fun _ _ => ⟨rfl, H111, (by decide : 4 + 0 ≤ _), (by decide : 1300 + 0 ≤ _)⟩)
   dsimp only [Pt.U, Pt.locs, Pt.cells, Pt.slots] at X112 l112 y112 z112 st112 hQ112
   subst l112 y112 z112
   obtain ⟨rfl, N112q, H112⟩ := hQ112
   have N112 := Fr.app N111 N112q
   have hr113 : ((((257 : Int32) - (prI c101 c102)) - (prI c102 c103)) - (prI c103 c104)) = (Int32.ofNat ((longL c101 c102 c103 c104).length - prs (longL c101 c102 c103 c104))) := own_x c101 c102 c103 c104
   obtain ⟨mz, hmz, hpz, hez⟩ := own_zero ((longL c101 c102 c103 c104).map (fun c => c.toInt8.toInt32))
   obtain ⟨_, _, ⟨T114, L114, k114, n114⟩, -, X114, ⟨Lc114, hQ114, l114, y114, z114⟩, st114⟩ := Jvm.LawKit.callS X112 hx (y := mN34) hown (mvT hZ (tw hw 31 rfl)) (mvT hZ (tw hw 32 rfl)) (mvT hZ (tw hw 33 rfl)) (mvT hZ (tw hw 34 rfl)) (by decide) (backOf (W := 0) (rmWfL l Z a0 hw [] x108 ((longL c101 c102 c103 c104).map (fun c => c.toInt8.toInt32)) t108 kb108 cs0 mz T108.heap n0 O110 S_CS c_CS E108 Fv108 Fc108 V108 (by rw [List.length_map, longL_len]; decide) (by rw [List.length_map, longL_len]; decide) hmz hpz hez) hZ (tw hw 34 rfl) (tw hw 33 rfl) (by decide) (by decide)) (g := (mkF m 190 #[vI p1, vI p2, vI p3, vI p4, vI p5, vI c101, vI c102, vI c103, vI c104, vI (p1 &&& (7 : Int32)), vR x108, vI 0, vI (Int32.ofNat ((longL c101 c102 c103 c104).length - prs (longL c101 c102 c103 c104)))] [(.ref x108)])) rfl (by rw [hml]; rfl) (argsL := [(.ref x108)]) (rest := []) (lenOf pd_5 rfl) rfl (by show 2 * 0 + _ ≤ _; exact Nat.le_of_eq rfl) (hb hby at_190) (fun _ _ => ⟨rfl, H112, (by decide : 4 + 0 ≤ _), (by decide : 1300 + 0 ≤ _)⟩)
   dsimp only [Pt.U, Pt.locs, Pt.cells, Pt.slots] at X114 l114 y114 z114 st114 hQ114
   subst l114 y114 z114
   obtain ⟨rfl, N114q, H114⟩ := hQ114
   have N114 := Fr.app N112 N114q
   obtain ⟨fs, hr, hrun, hended, eR, eW, eI, eS⟩ := Stand.leaveW (s := s) (vm₁ := s.vm) X114 hS0 (by rw [H114]; omega) (v := some (.int 1)) (fun h => by rw [Bd.returns] at h; cases h)
   refine ⟨_, _, pre107 _ ?_, hrun, hended, _, _, rfl, ?_, eR, eW, eI, eS.mono (by decide) (by decide)⟩
   ·skip
    show SS p e below T104 m 111 #[vI p1, vI p2, vI p3, vI p4, vI p5, vI c101, vI c102, vI c103, vI c104, vI (p1 &&& (7 : Int32)), .unset, .unset, .unset] [] _
    refine XS.iload X104.here hx rfl (hb hby at_111) rfl ?_
    refine XS.iload X104.here hx rfl (hb hby at_113) rfl ?_
    refine XS.iload X104.here hx rfl (hb hby at_115) rfl ?_
    refine XS.iload X104.here hx rfl (hb hby at_117) rfl ?_
    show SS p e below T104 m 119 #[vI p1, vI p2, vI p3, vI p4, vI p5, vI c101, vI c102, vI c103, vI c104, vI (p1 &&& (7 : Int32)), .unset, .unset, .unset] [(.int c104), (.int c103), (.int c102), (.int c101)] _
    refine st108 _ ?_
    refine XS.astore X108.here hx rfl (hb hby at_122) rfl rfl (l' := #[vI p1, vI p2, vI p3, vI p4, vI p5, vI c101, vI c102, vI c103, vI c104, vI (p1 &&& (7 : Int32)), vR x108, .unset, .unset]) rfl ?_
    refine XS.sipush X108.here hx rfl (hb hby at_124) ?_
    refine XS.iload X108.here hx rfl (hb hby at_127) rfl ?_
    refine XS.iload X108.here hx rfl (hb hby at_129) rfl ?_
    show SS p e below T108 m 131 #[vI p1, vI p2, vI p3, vI p4, vI p5, vI c101, vI c102, vI c103, vI c104, vI (p1 &&& (7 : Int32)), vR x108, .unset, .unset] [(.int c102), (.int c101), (.int 257)] _
    refine st109 _ ?_
    refine XS.isub X109.here hx rfl (hb hby at_134) rfl ?_
    refine XS.iload X109.here hx rfl (hb hby at_135) rfl ?_
    refine XS.iload X109.here hx rfl (hb hby at_137) rfl ?_
    show SS p e below T109 m 139 #[vI p1, vI p2, vI p3, vI p4, vI p5, vI c101, vI c102, vI c103, vI c104, vI (p1 &&& (7 : Int32)), vR x108, .unset, .unset] [(.int c103), (.int c102), (.int ((257 : Int32) - (prI c101 c102)))] _
    refine st111 _ ?_
    refine XS.isub X111.here hx rfl (hb hby at_142) rfl ?_
    refine XS.iload X111.here hx rfl (hb hby at_143) rfl ?_
    refine XS.iload X111.here hx rfl (hb hby at_145) rfl ?_
    show SS p e below T111 m 147 #[vI p1, vI p2, vI p3, vI p4, vI p5, vI c101, vI c102, vI c103, vI c104, vI (p1 &&& (7 : Int32)), vR x108, .unset, .unset] [(.int c104), (.int c103), (.int (((257 : Int32) - (prI c101 c102)) - (prI c102 c103)))] _
    refine st112 _ ?_
    refine XS.isub X112.here hx rfl (hb hby at_150) rfl ?_
    refine XS.istore X112.here hx rfl (hb hby at_151) rfl (l' := #[vI p1, vI p2, vI p3, vI p4, vI p5, vI c101, vI c102, vI c103, vI c104, vI (p1 &&& (7 : Int32)), vR x108, .unset, vI ((((257 : Int32) - (prI c101 c102)) - (prI c102 c103)) - (prI c103 c104))]) rfl ?_
    show SS p e below T112 m 153 #[vI p1, vI p2, vI p3, vI p4, vI p5, vI c101, vI c102, vI c103, vI c104, vI (p1 &&& (7 : Int32)), vR x108, .unset, vI ((((257 : Int32) - (prI c101 c102)) - (prI c102 c103)) - (prI c103 c104))] [] _
    rw [hr113]
    refine XS.iload X112.here hx rfl (hb hby at_153) rfl ?_
    refine XS.sipush X112.here hx rfl (hb hby at_155) ?_
    refine XS.icmpYes X112.here hx rfl (pc0 := 158) (pc' := 185) rfl (hb hby at_158) rfl (tlt ((own_lt (i := 256) (by decide) (by rw [longL_len]; omega)).mpr (by rw [longL_len, prs_lat (longL c101 c102 c103 c104) hL]; decide) : (256 : Int32) < (Int32.ofNat ((longL c101 c102 c103 c104).length - prs (longL c101 c102 c103 c104))))).2.2.1 (by decide) (by decide) ?_
    refine XS.iconst X112.here hx rfl (hb hby at_185) ?_
    refine XS.istore X112.here hx rfl (hb hby at_186) rfl (l' := #[vI p1, vI p2, vI p3, vI p4, vI p5, vI c101, vI c102, vI c103, vI c104, vI (p1 &&& (7 : Int32)), vR x108, vI 0, vI (Int32.ofNat ((longL c101 c102 c103 c104).length - prs (longL c101 c102 c103 c104)))]) rfl ?_
    refine XS.aload X112.here hx rfl (hb hby at_188) rfl rfl ?_
    show SS p e below T112 m 190 #[vI p1, vI p2, vI p3, vI p4, vI p5, vI c101, vI c102, vI c103, vI c104, vI (p1 &&& (7 : Int32)), vR x108, vI 0, vI (Int32.ofNat ((longL c101 c102 c103 c104).length - prs (longL c101 c102 c103 c104)))] [(.ref x108)] _
    refine st114 _ ?_
    refine XS.iload X114.here hx rfl (hb hby at_193) rfl ?_
    refine XS.icmpNo X114.here hx rfl (hb hby at_195) rfl (teq (own_wfc (by rw [List.length_map, longL_len]; decide) : (wfR ((longL c101 c102 c103 c104).map (fun c => c.toInt8.toInt32)).length mz ((longL c101 c102 c103 c104).map (fun c => c.toInt8.toInt32)).length) = (0 : Int32))).2 ?_
    refine XS.iconst X114.here hx rfl (hb hby at_198) ?_
    refine XS.goto X114.here hx rfl (pc0 := 199) (pc' := 203) rfl (hb hby at_199) (by decide) (by decide) ?_
    show SS p e below T114 m 203 #[vI p1, vI p2, vI p3, vI p4, vI p5, vI c101, vI c102, vI c103, vI c104, vI (p1 &&& (7 : Int32)), vR x108, vI 0, vI (Int32.ofNat ((longL c101 c102 c103 c104).length - prs (longL c101 c102 c103 c104)))] [(.int 1)] _
    exact retN X114 hx (t := .boolean) Bd.returns (by simp) (hb hby at_203) hr
   ·show Q_rm0 Z p1 p2 p3 p4 p5 cs0 fm h0 n0 _ T114.heap _
    rw [H114]
    exact ⟨rfl, N114⟩
  ·skip
   obtain ⟨_, _, ⟨T115, L115, k115, n115⟩, -, X115, ⟨Lc115, hQ115, l115, y115, z115⟩, st115⟩ := Jvm.LawKit.callS X104 hx (y := mN38) hown (mvT hZ (tw hw 149 rfl)) (mvT hZ (tw hw 150 rfl)) (mvT hZ (tw hw 2 rfl)) (mvT hZ (tw hw 151 rfl)) (by decide) (backOf (W := 0) (rmLongU l Z a0 hw [] c101 c102 c103 c104 cs0 m1 h0 n0 O0 S_CS c_CS S_AD S_HI S_LO r101 r102 r103 r104 hcs hj hpre hend) hZ (tw hw 151 rfl) (tw hw 2 rfl) (by decide) (by decide)) (g := (mkF m 119 #[vI p1, vI p2, vI p3, vI p4, vI p5, vI c101, vI c102, vI c103, vI c104, vI (p1 &&& (7 : Int32)), .unset, .unset, .unset] [(.int c104), (.int c103), (.int c102), (.int c101)])) rfl (by rw [hml]; rfl) (argsL := [(.int c101), (.int c102), (.int c103), (.int c104)]) (rest := []) (lenOf pd_26 rfl) rfl (by show 2 * 0 + _ ≤ _; exact Nat.le_of_eq rfl) (hb hby at_119) (fun _ _ => ⟨rfl, H104, (by decide : 0 + 4 ≤ _), (by decide : 0 + 1300 ≤ _)⟩)
   dsimp only [Pt.U, Pt.locs, Pt.cells, Pt.slots] at X115 l115 y115 z115 st115 hQ115
   subst l115 y115 z115
   obtain ⟨x115, t115, kb115, rfl, N115q, K115, gx115, E115, Fv115, Fc115, tx115, V115⟩ := hQ115
   have ltx115 : @LT.lt Nat _ x115 T115.heap.size := E115.lt
   have ltt115 : @LT.lt Nat _ t115 T115.heap.size := V115.lt
   have sz1_K115 := K115.1
   have N115 := Fr.app N104 N115q
   have O117 : Old Z n0 T115.heap := O0.keep K115 all0
   obtain ⟨_, _, ⟨T116, L116, k116, n116⟩, -, X116, ⟨Lc116, hQ116, l116, y116, z116⟩, st116⟩ := Jvm.LawKit.callS X115 hx (y := mN36) hown (mvT hZ (tw hw 152 rfl)) (mvT hZ (tw hw 153 rfl)) (mvT hZ (tw hw 2 rfl)) (mvT hZ (tw hw 154 rfl)) (by decide) (backOf (W := 1) (rmPair l Z a0 hw [] c101 c102  T115.heap n0 O117 ) hZ (tw hw 154 rfl) (tw hw 2 rfl) (by decide) (by decide)) (g := (mkF m 131 #[vI p1, vI p2, vI p3, vI p4, vI p5, vI c101, vI c102, vI c103, vI c104, vI (p1 &&& (7 : Int32)), vR x115, .unset, .unset] [(.int c102), (.int c101), (.int 257)])) rfl (by rw [hml]; rfl) (argsL := [(.int c101), (.int c102)]) (rest := [(.int 257)]) (lenOf pd_27 rfl) rfl (by show 2 * 0 + _ ≤ _; exact Nat.le_of_eq rfl) (hb hby at_131) (fun _ _ => ⟨rfl, rfl, (by decide : 4 + 0 ≤ _), (by decide : 1300 + 0 ≤ _)⟩)
   dsimp only [Pt.U, Pt.locs, Pt.cells, Pt.slots] at X116 l116 y116 z116 st116 hQ116
   subst l116 y116 z116
   obtain ⟨rfl, N116q, H116⟩ := hQ116
   have N116 := Fr.app N115 N116q
   obtain ⟨_, _, ⟨T118, L118, k118, n118⟩, -, X118, ⟨Lc118, hQ118, l118, y118, z118⟩, st118⟩ := Jvm.LawKit.callS X116 hx (y := mN36) hown (mvT hZ (tw hw 152 rfl)) (mvT hZ (tw hw 153 rfl)) (mvT hZ (tw hw 2 rfl)) (mvT hZ (tw hw 154 rfl)) (by decide) (backOf (W := 1) (rmPair l Z a0 hw [] c102 c103  T115.heap n0 O117 ) hZ (tw hw 154 rfl) (tw hw 2 rfl) (by decide) (by decide)) (g := (mkF m 139 #[vI p1, vI p2, vI p3, vI p4, vI p5, vI c101, vI c102, vI c103, vI c104, vI (p1 &&& (7 : Int32)), vR x115, .unset, .unset] [(.int c103), (.int c102), (.int ((257 : Int32) - (prI c101 c102)))])) rfl (by rw [hml]; rfl) (argsL := [(.int c102), (.int c103)]) (rest := [(.int ((257 : Int32) - (prI c101 c102)))]) (lenOf pd_27 rfl) rfl (by show 2 * 0 + _ ≤ _; exact Nat.le_of_eq rfl) (hb hby at_139) (fun _ _ => ⟨rfl, H116, (by decide : 4 + 0 ≤ _), (by decide : 1300 + 0 ≤ _)⟩)
   dsimp only [Pt.U, Pt.locs, Pt.cells, Pt.slots] at X118 l118 y118 z118 st118 hQ118
   subst l118 y118 z118
   obtain ⟨rfl, N118q, H118⟩ := hQ118
   have N118 := Fr.app N116 N118q
   obtain ⟨_, _, ⟨T119, L119, k119, n119⟩, -, X119, ⟨Lc119, hQ119, l119, y119, z119⟩, st119⟩ := Jvm.LawKit.callS X118 hx (y := mN36) hown (mvT hZ (tw hw 152 rfl)) (mvT hZ (tw hw 153 rfl)) (mvT hZ (tw hw 2 rfl)) (mvT hZ (tw hw 154 rfl)) (by decide) (backOf (W := 1) (rmPair l Z a0 hw [] c103 c104  T115.heap n0 O117 ) hZ (tw hw 154 rfl) (tw hw 2 rfl) (by decide) (by decide)) (g := (mkF m 147 #[vI p1, vI p2, vI p3, vI p4, vI p5, vI c101, vI c102, vI c103, vI c104, vI (p1 &&& (7 : Int32)), vR x115, .unset, .unset] [(.int c104), (.int c103), (.int (((257 : Int32) - (prI c101 c102)) - (prI c102 c103)))])) rfl (by rw [hml]; rfl) (argsL := [(.int c103), (.int c104)]) (rest := [(.int (((257 : Int32) - (prI c101 c102)) - (prI c102 c103)))]) (lenOf pd_27 rfl) rfl (by show 2 * 0 + _ ≤ _; exact Nat.le_of_eq rfl) (hb hby at_147) (fun _ _ => ⟨rfl, H118, (by decide : 4 + 0 ≤ _), (by decide : 1300 + 0 ≤ _)⟩)
   dsimp only [Pt.U, Pt.locs, Pt.cells, Pt.slots] at X119 l119 y119 z119 st119 hQ119
   subst l119 y119 z119
   obtain ⟨rfl, N119q, H119⟩ := hQ119
   have N119 := Fr.app N118 N119q
   have hr120 : ((((257 : Int32) - (prI c101 c102)) - (prI c102 c103)) - (prI c103 c104)) = (Int32.ofNat ((longL c101 c102 c103 c104).length - prs (longL c101 c102 c103 c104))) := own_x c101 c102 c103 c104
   have pre122 : ∀ t, SS p e below T119 m 158 #[vI p1, vI p2, vI p3, vI p4, vI p5, vI c101, vI c102, vI c103, vI c104, vI (p1 &&& (7 : Int32)), vR x115, .unset, vI (Int32.ofNat ((longL c101 c102 c103 c104).length - prs (longL c101 c102 c103 c104)))] [(.int 256), (.int (Int32.ofNat ((longL c101 c102 c103 c104).length - prs (longL c101 c102 c103 c104))))] t → Steps p.tables e below (s₁.setTop (entryFrame m #[(.int p1), (.int p2), (.int p3), (.int p4), (.int p5)] maxLocals)) t := by
    intro t kt
    refine pre107 _ ?_
    show SS p e below T104 m 111 #[vI p1, vI p2, vI p3, vI p4, vI p5, vI c101, vI c102, vI c103, vI c104, vI (p1 &&& (7 : Int32)), .unset, .unset, .unset] [] _
    refine XS.iload X104.here hx rfl (hb hby at_111) rfl ?_
    refine XS.iload X104.here hx rfl (hb hby at_113) rfl ?_
    refine XS.iload X104.here hx rfl (hb hby at_115) rfl ?_
    refine XS.iload X104.here hx rfl (hb hby at_117) rfl ?_
    show SS p e below T104 m 119 #[vI p1, vI p2, vI p3, vI p4, vI p5, vI c101, vI c102, vI c103, vI c104, vI (p1 &&& (7 : Int32)), .unset, .unset, .unset] [(.int c104), (.int c103), (.int c102), (.int c101)] _
    refine st115 _ ?_
    refine XS.astore X115.here hx rfl (hb hby at_122) rfl rfl (l' := #[vI p1, vI p2, vI p3, vI p4, vI p5, vI c101, vI c102, vI c103, vI c104, vI (p1 &&& (7 : Int32)), vR x115, .unset, .unset]) rfl ?_
    refine XS.sipush X115.here hx rfl (hb hby at_124) ?_
    refine XS.iload X115.here hx rfl (hb hby at_127) rfl ?_
    refine XS.iload X115.here hx rfl (hb hby at_129) rfl ?_
    show SS p e below T115 m 131 #[vI p1, vI p2, vI p3, vI p4, vI p5, vI c101, vI c102, vI c103, vI c104, vI (p1 &&& (7 : Int32)), vR x115, .unset, .unset] [(.int c102), (.int c101), (.int 257)] _
    refine st116 _ ?_
    refine XS.isub X116.here hx rfl (hb hby at_134) rfl ?_
    refine XS.iload X116.here hx rfl (hb hby at_135) rfl ?_
    refine XS.iload X116.here hx rfl (hb hby at_137) rfl ?_
    show SS p e below T116 m 139 #[vI p1, vI p2, vI p3, vI p4, vI p5, vI c101, vI c102, vI c103, vI c104, vI (p1 &&& (7 : Int32)), vR x115, .unset, .unset] [(.int c103), (.int c102), (.int ((257 : Int32) - (prI c101 c102)))] _
    refine st118 _ ?_
    refine XS.isub X118.here hx rfl (hb hby at_142) rfl ?_
    refine XS.iload X118.here hx rfl (hb hby at_143) rfl ?_
    refine XS.iload X118.here hx rfl (hb hby at_145) rfl ?_
    show SS p e below T118 m 147 #[vI p1, vI p2, vI p3, vI p4, vI p5, vI c101, vI c102, vI c103, vI c104, vI (p1 &&& (7 : Int32)), vR x115, .unset, .unset] [(.int c104), (.int c103), (.int (((257 : Int32) - (prI c101 c102)) - (prI c102 c103)))] _
    refine st119 _ ?_
    refine XS.isub X119.here hx rfl (hb hby at_150) rfl ?_
    refine XS.istore X119.here hx rfl (hb hby at_151) rfl (l' := #[vI p1, vI p2, vI p3, vI p4, vI p5, vI c101, vI c102, vI c103, vI c104, vI (p1 &&& (7 : Int32)), vR x115, .unset, vI ((((257 : Int32) - (prI c101 c102)) - (prI c102 c103)) - (prI c103 c104))]) rfl ?_
    show SS p e below T119 m 153 #[vI p1, vI p2, vI p3, vI p4, vI p5, vI c101, vI c102, vI c103, vI c104, vI (p1 &&& (7 : Int32)), vR x115, .unset, vI ((((257 : Int32) - (prI c101 c102)) - (prI c102 c103)) - (prI c103 c104))] [] _
    rw [hr120]
    refine XS.iload X119.here hx rfl (hb hby at_153) rfl ?_
    refine XS.sipush X119.here hx rfl (hb hby at_155) ?_
    exact kt
   by_cases hc121 : (256 : Int32) < (Int32.ofNat ((longL c101 c102 c103 c104).length - prs (longL c101 c102 c103 c104)))
   ·skip
    obtain ⟨mz, hmz, hpz, hez⟩ := own_zero (longL c101 c102 c103 c104)
    obtain ⟨_, _, ⟨T123, L123, k123, n123⟩, -, X123, ⟨Lc123, hQ123, l123, y123, z123⟩, st123⟩ := Jvm.LawKit.callS X119 hx (y := mN34) hown (mvT hZ (tw hw 31 rfl)) (mvT hZ (tw hw 32 rfl)) (mvT hZ (tw hw 33 rfl)) (mvT hZ (tw hw 34 rfl)) (by decide) (backOf (W := 0) (rmWfU l Z a0 hw [] x115 (longL c101 c102 c103 c104) t115 kb115 cs0 mz fm T115.heap n0 O117 S_CS c_CS E115 Fv115 Fc115 V115 (by rw [longL_len]; decide) (by rw [longL_len]; decide) hmz hpz hez S_AD S_HI S_LO hcs S_FM r_FM) hZ (tw hw 34 rfl) (tw hw 33 rfl) (by decide) (by decide)) (g := (mkF m 190 #[vI p1, vI p2, vI p3, vI p4, vI p5, vI c101, vI c102, vI c103, vI c104, vI (p1 &&& (7 : Int32)), vR x115, vI 0, vI (Int32.ofNat ((longL c101 c102 c103 c104).length - prs (longL c101 c102 c103 c104)))] [(.ref x115)])) rfl (by rw [hml]; rfl) (argsL := [(.ref x115)]) (rest := []) (lenOf pd_5 rfl) rfl (by show 2 * 0 + _ ≤ _; exact Nat.le_of_eq rfl) (hb hby at_190) (fun _ _ => ⟨rfl, H119, (by decide : 4 + 0 ≤ _), (by decide : 1300 + 0 ≤ _)⟩)
    dsimp only [Pt.U, Pt.locs, Pt.cells, Pt.slots] at X123 l123 y123 z123 st123 hQ123
    subst l123 y123 z123
    obtain ⟨rfl, N123q, H123⟩ := hQ123
    have N123 := Fr.app N119 N123q
    obtain ⟨fs, hr, hrun, hended, eR, eW, eI, eS⟩ := Stand.leaveW (s := s) (vm₁ := s.vm) X123 hS0 (by rw [H123]; omega) (v := some (.int 1)) (fun h => by rw [Bd.returns] at h; cases h)
    refine ⟨_, _, pre122 _ ?_, hrun, hended, _, _, rfl, ?_, eR, eW, eI, eS.mono (by decide) (by decide)⟩
    ·skip
     show SS p e below T119 m 158 #[vI p1, vI p2, vI p3, vI p4, vI p5, vI c101, vI c102, vI c103, vI c104, vI (p1 &&& (7 : Int32)), vR x115, .unset, vI (Int32.ofNat ((longL c101 c102 c103 c104).length - prs (longL c101 c102 c103 c104)))] [(.int 256), (.int (Int32.ofNat ((longL c101 c102 c103 c104).length - prs (longL c101 c102 c103 c104))))] _
     refine XS.icmpYes X119.here hx rfl (pc0 := 158) (pc' := 185) rfl (hb hby at_158) rfl (tlt hc121).2.2.1 (by decide) (by decide) ?_
     refine XS.iconst X119.here hx rfl (hb hby at_185) ?_
     refine XS.istore X119.here hx rfl (hb hby at_186) rfl (l' := #[vI p1, vI p2, vI p3, vI p4, vI p5, vI c101, vI c102, vI c103, vI c104, vI (p1 &&& (7 : Int32)), vR x115, vI 0, vI (Int32.ofNat ((longL c101 c102 c103 c104).length - prs (longL c101 c102 c103 c104)))]) rfl ?_
     refine XS.aload X119.here hx rfl (hb hby at_188) rfl rfl ?_
     show SS p e below T119 m 190 #[vI p1, vI p2, vI p3, vI p4, vI p5, vI c101, vI c102, vI c103, vI c104, vI (p1 &&& (7 : Int32)), vR x115, vI 0, vI (Int32.ofNat ((longL c101 c102 c103 c104).length - prs (longL c101 c102 c103 c104)))] [(.ref x115)] _
     refine st123 _ ?_
     refine XS.iload X123.here hx rfl (hb hby at_193) rfl ?_
     refine XS.icmpNo X123.here hx rfl (hb hby at_195) rfl (teq (own_wfc ((own_lt (i := 256) (by decide) (by rw [longL_len]; omega)).mp hc121) : (wfR ((longL c101 c102 c103 c104).length - prs (longL c101 c102 c103 c104)) mz (longL c101 c102 c103 c104).length) = (0 : Int32))).2 ?_
     refine XS.iconst X123.here hx rfl (hb hby at_198) ?_
     refine XS.goto X123.here hx rfl (pc0 := 199) (pc' := 203) rfl (hb hby at_199) (by decide) (by decide) ?_
     show SS p e below T123 m 203 #[vI p1, vI p2, vI p3, vI p4, vI p5, vI c101, vI c102, vI c103, vI c104, vI (p1 &&& (7 : Int32)), vR x115, vI 0, vI (Int32.ofNat ((longL c101 c102 c103 c104).length - prs (longL c101 c102 c103 c104)))] [(.int 1)] _
     exact retN X123 hx (t := .boolean) Bd.returns (by simp) (hb hby at_203) hr
    ·show Q_rm0 Z p1 p2 p3 p4 p5 cs0 fm h0 n0 _ T123.heap _
     rw [H123]
     exact ⟨rfl, N123⟩
   ·skip
    have pre125 : ∀ t, SS p e below T119 m 163 #[vI p1, vI p2, vI p3, vI p4, vI p5, vI c101, vI c102, vI c103, vI c104, vI (p1 &&& (7 : Int32)), vR x115, .unset, vI (Int32.ofNat ((longL c101 c102 c103 c104).length - prs (longL c101 c102 c103 c104)))] [(.int c101)] t → Steps p.tables e below (s₁.setTop (entryFrame m #[(.int p1), (.int p2), (.int p3), (.int p4), (.int p5)] maxLocals)) t := by
     intro t kt
     refine pre122 _ ?_
     show SS p e below T119 m 158 #[vI p1, vI p2, vI p3, vI p4, vI p5, vI c101, vI c102, vI c103, vI c104, vI (p1 &&& (7 : Int32)), vR x115, .unset, vI (Int32.ofNat ((longL c101 c102 c103 c104).length - prs (longL c101 c102 c103 c104)))] [(.int 256), (.int (Int32.ofNat ((longL c101 c102 c103 c104).length - prs (longL c101 c102 c103 c104))))] _
     refine XS.icmpNo X119.here hx rfl (hb hby at_158) rfl (flt hc121).2.2.1 ?_
     refine XS.iload X119.here hx rfl (hb hby at_161) rfl ?_
     exact kt
    by_cases hc124 : c101 = (0 : Int32)
    ·skip
     obtain ⟨mz, hmz, hpz, hez⟩ := own_zero (longL c101 c102 c103 c104)
     obtain ⟨_, _, ⟨T126, L126, k126, n126⟩, -, X126, ⟨Lc126, hQ126, l126, y126, z126⟩, st126⟩ := Jvm.LawKit.callS X119 hx (y := mN34) hown (mvT hZ (tw hw 31 rfl)) (mvT hZ (tw hw 32 rfl)) (mvT hZ (tw hw 33 rfl)) (mvT hZ (tw hw 34 rfl)) (by decide) (backOf (W := 0) (rmWfU l Z a0 hw [] x115 (longL c101 c102 c103 c104) t115 kb115 cs0 mz fm T115.heap n0 O117 S_CS c_CS E115 Fv115 Fc115 V115 (by rw [longL_len]; decide) (by rw [longL_len]; decide) hmz hpz hez S_AD S_HI S_LO hcs S_FM r_FM) hZ (tw hw 34 rfl) (tw hw 33 rfl) (by decide) (by decide)) (g := (mkF m 190 #[vI p1, vI p2, vI p3, vI p4, vI p5, vI c101, vI c102, vI c103, vI c104, vI (p1 &&& (7 : Int32)), vR x115, vI 0, vI (Int32.ofNat ((longL c101 c102 c103 c104).length - prs (longL c101 c102 c103 c104)))] [(.ref x115)])) rfl (by rw [hml]; rfl) (argsL := [(.ref x115)]) (rest := []) (lenOf pd_5 rfl) rfl (by show 2 * 0 + _ ≤ _; exact Nat.le_of_eq rfl) (hb hby at_190) (fun _ _ => ⟨rfl, H119, (by decide : 4 + 0 ≤ _), (by decide : 1300 + 0 ≤ _)⟩)
     dsimp only [Pt.U, Pt.locs, Pt.cells, Pt.slots] at X126 l126 y126 z126 st126 hQ126
     subst l126 y126 z126
     obtain ⟨rfl, N126q, H126⟩ := hQ126
     have N126 := Fr.app N119 N126q
     obtain ⟨fs, hr, hrun, hended, eR, eW, eI, eS⟩ := Stand.leaveW (s := s) (vm₁ := s.vm) X126 hS0 (by rw [H126]; omega) (v := some (.int 1)) (fun h => by rw [Bd.returns] at h; cases h)
     refine ⟨_, _, pre125 _ ?_, hrun, hended, _, _, rfl, ?_, eR, eW, eI, eS.mono (by decide) (by decide)⟩
     ·skip
      show SS p e below T119 m 163 #[vI p1, vI p2, vI p3, vI p4, vI p5, vI c101, vI c102, vI c103, vI c104, vI (p1 &&& (7 : Int32)), vR x115, .unset, vI (Int32.ofNat ((longL c101 c102 c103 c104).length - prs (longL c101 c102 c103 c104)))] [(.int c101)] _
      refine XS.ifYes X119.here hx rfl (pc0 := 163) (pc' := 185) rfl (hb hby at_163) rfl ((if0 _ _).trans (teq hc124).1) (by decide) (by decide) ?_
      refine XS.iconst X119.here hx rfl (hb hby at_185) ?_
      refine XS.istore X119.here hx rfl (hb hby at_186) rfl (l' := #[vI p1, vI p2, vI p3, vI p4, vI p5, vI c101, vI c102, vI c103, vI c104, vI (p1 &&& (7 : Int32)), vR x115, vI 0, vI (Int32.ofNat ((longL c101 c102 c103 c104).length - prs (longL c101 c102 c103 c104)))]) rfl ?_
      refine XS.aload X119.here hx rfl (hb hby at_188) rfl rfl ?_
      show SS p e below T119 m 190 #[vI p1, vI p2, vI p3, vI p4, vI p5, vI c101, vI c102, vI c103, vI c104, vI (p1 &&& (7 : Int32)), vR x115, vI 0, vI (Int32.ofNat ((longL c101 c102 c103 c104).length - prs (longL c101 c102 c103 c104)))] [(.ref x115)] _
      refine st126 _ ?_
      refine XS.iload X126.here hx rfl (hb hby at_193) rfl ?_
      refine XS.icmpNo X126.here hx rfl (hb hby at_195) rfl (teq (own_wf0 (c := c101) (by simp [longL]) hc124 hpz : (wfR ((longL c101 c102 c103 c104).length - prs (longL c101 c102 c103 c104)) mz (longL c101 c102 c103 c104).length) = (0 : Int32))).2 ?_
      refine XS.iconst X126.here hx rfl (hb hby at_198) ?_
      refine XS.goto X126.here hx rfl (pc0 := 199) (pc' := 203) rfl (hb hby at_199) (by decide) (by decide) ?_
      show SS p e below T126 m 203 #[vI p1, vI p2, vI p3, vI p4, vI p5, vI c101, vI c102, vI c103, vI c104, vI (p1 &&& (7 : Int32)), vR x115, vI 0, vI (Int32.ofNat ((longL c101 c102 c103 c104).length - prs (longL c101 c102 c103 c104)))] [(.int 1)] _
      exact retN X126 hx (t := .boolean) Bd.returns (by simp) (hb hby at_203) hr
     ·show Q_rm0 Z p1 p2 p3 p4 p5 cs0 fm h0 n0 _ T126.heap _
      rw [H126]
      exact ⟨rfl, N126⟩
    ·skip
     have pre128 : ∀ t, SS p e below T119 m 168 #[vI p1, vI p2, vI p3, vI p4, vI p5, vI c101, vI c102, vI c103, vI c104, vI (p1 &&& (7 : Int32)), vR x115, .unset, vI (Int32.ofNat ((longL c101 c102 c103 c104).length - prs (longL c101 c102 c103 c104)))] [(.int c102)] t → Steps p.tables e below (s₁.setTop (entryFrame m #[(.int p1), (.int p2), (.int p3), (.int p4), (.int p5)] maxLocals)) t := by
      intro t kt
      refine pre125 _ ?_
      show SS p e below T119 m 163 #[vI p1, vI p2, vI p3, vI p4, vI p5, vI c101, vI c102, vI c103, vI c104, vI (p1 &&& (7 : Int32)), vR x115, .unset, vI (Int32.ofNat ((longL c101 c102 c103 c104).length - prs (longL c101 c102 c103 c104)))] [(.int c101)] _
      refine XS.ifNo X119.here hx rfl (hb hby at_163) rfl ((if0 _ _).trans (feq hc124).1) ?_
      refine XS.iload X119.here hx rfl (hb hby at_166) rfl ?_
      exact kt
     by_cases hc127 : c102 = (0 : Int32)
     ·skip
      obtain ⟨mz, hmz, hpz, hez⟩ := own_zero (longL c101 c102 c103 c104)
      obtain ⟨_, _, ⟨T129, L129, k129, n129⟩, -, X129, ⟨Lc129, hQ129, l129, y129, z129⟩, st129⟩ := Jvm.LawKit.callS X119 hx (y := mN34) hown (mvT hZ (tw hw 31 rfl)) (mvT hZ (tw hw 32 rfl)) (mvT hZ (tw hw 33 rfl)) (mvT hZ (tw hw 34 rfl)) (by decide) (backOf (W := 0) (rmWfU l Z a0 hw [] x115 (longL c101 c102 c103 c104) t115 kb115 cs0 mz fm T115.heap n0 O117 S_CS c_CS E115 Fv115 Fc115 V115 (by rw [longL_len]; decide) (by rw [longL_len]; decide) hmz hpz hez S_AD S_HI S_LO hcs S_FM r_FM) hZ (tw hw 34 rfl) (tw hw 33 rfl) (by decide) (by decide)) (g := (mkF m 190 #[vI p1, vI p2, vI p3, vI p4, vI p5, vI c101, vI c102, vI c103, vI c104, vI (p1 &&& (7 : Int32)), vR x115, vI 0, vI (Int32.ofNat ((longL c101 c102 c103 c104).length - prs (longL c101 c102 c103 c104)))] [(.ref x115)])) rfl (by rw [hml]; rfl) (argsL := [(.ref x115)]) (rest := []) (lenOf pd_5 rfl) rfl (by show 2 * 0 + _ ≤ _; exact Nat.le_of_eq rfl) (hb hby at_190) (fun _ _ => ⟨rfl, H119, (by decide : 4 + 0 ≤ _), (by decide : 1300 + 0 ≤ _)⟩)
      dsimp only [Pt.U, Pt.locs, Pt.cells, Pt.slots] at X129 l129 y129 z129 st129 hQ129
      subst l129 y129 z129
      obtain ⟨rfl, N129q, H129⟩ := hQ129
      have N129 := Fr.app N119 N129q
      obtain ⟨fs, hr, hrun, hended, eR, eW, eI, eS⟩ := Stand.leaveW (s := s) (vm₁ := s.vm) X129 hS0 (by rw [H129]; omega) (v := some (.int 1)) (fun h => by rw [Bd.returns] at h; cases h)
      refine ⟨_, _, pre128 _ ?_, hrun, hended, _, _, rfl, ?_, eR, eW, eI, eS.mono (by decide) (by decide)⟩
      ·skip
       show SS p e below T119 m 168 #[vI p1, vI p2, vI p3, vI p4, vI p5, vI c101, vI c102, vI c103, vI c104, vI (p1 &&& (7 : Int32)), vR x115, .unset, vI (Int32.ofNat ((longL c101 c102 c103 c104).length - prs (longL c101 c102 c103 c104)))] [(.int c102)] _
       refine XS.ifYes X119.here hx rfl (pc0 := 168) (pc' := 185) rfl (hb hby at_168) rfl ((if0 _ _).trans (teq hc127).1) (by decide) (by decide) ?_
       refine XS.iconst X119.here hx rfl (hb hby at_185) ?_
       refine XS.istore X119.here hx rfl (hb hby at_186) rfl (l' := #[vI p1, vI p2, vI p3, vI p4, vI p5, vI c101, vI c102, vI c103, vI c104, vI (p1 &&& (7 : Int32)), vR x115, vI 0, vI (Int32.ofNat ((longL c101 c102 c103 c104).length - prs (longL c101 c102 c103 c104)))]) rfl ?_
       refine XS.aload X119.here hx rfl (hb hby at_188) rfl rfl ?_
       show SS p e below T119 m 190 #[vI p1, vI p2, vI p3, vI p4, vI p5, vI c101, vI c102, vI c103, vI c104, vI (p1 &&& (7 : Int32)), vR x115, vI 0, vI (Int32.ofNat ((longL c101 c102 c103 c104).length - prs (longL c101 c102 c103 c104)))] [(.ref x115)] _
       refine st129 _ ?_
       refine XS.iload X129.here hx rfl (hb hby at_193) rfl ?_
       refine XS.icmpNo X129.here hx rfl (hb hby at_195) rfl (teq (own_wf0 (c := c102) (by simp [longL]) hc127 hpz : (wfR ((longL c101 c102 c103 c104).length - prs (longL c101 c102 c103 c104)) mz (longL c101 c102 c103 c104).length) = (0 : Int32))).2 ?_
       refine XS.iconst X129.here hx rfl (hb hby at_198) ?_
       refine XS.goto X129.here hx rfl (pc0 := 199) (pc' := 203) rfl (hb hby at_199) (by decide) (by decide) ?_
       show SS p e below T129 m 203 #[vI p1, vI p2, vI p3, vI p4, vI p5, vI c101, vI c102, vI c103, vI c104, vI (p1 &&& (7 : Int32)), vR x115, vI 0, vI (Int32.ofNat ((longL c101 c102 c103 c104).length - prs (longL c101 c102 c103 c104)))] [(.int 1)] _
       exact retN X129 hx (t := .boolean) Bd.returns (by simp) (hb hby at_203) hr
      ·show Q_rm0 Z p1 p2 p3 p4 p5 cs0 fm h0 n0 _ T129.heap _
       rw [H129]
       exact ⟨rfl, N129⟩
     ·skip
      have pre131 : ∀ t, SS p e below T119 m 173 #[vI p1, vI p2, vI p3, vI p4, vI p5, vI c101, vI c102, vI c103, vI c104, vI (p1 &&& (7 : Int32)), vR x115, .unset, vI (Int32.ofNat ((longL c101 c102 c103 c104).length - prs (longL c101 c102 c103 c104)))] [(.int c103)] t → Steps p.tables e below (s₁.setTop (entryFrame m #[(.int p1), (.int p2), (.int p3), (.int p4), (.int p5)] maxLocals)) t := by
       intro t kt
       refine pre128 _ ?_
       show SS p e below T119 m 168 #[vI p1, vI p2, vI p3, vI p4, vI p5, vI c101, vI c102, vI c103, vI c104, vI (p1 &&& (7 : Int32)), vR x115, .unset, vI (Int32.ofNat ((longL c101 c102 c103 c104).length - prs (longL c101 c102 c103 c104)))] [(.int c102)] _
       refine XS.ifNo X119.here hx rfl (hb hby at_168) rfl ((if0 _ _).trans (feq hc127).1) ?_
       refine XS.iload X119.here hx rfl (hb hby at_171) rfl ?_
       exact kt
      by_cases hc130 : c103 = (0 : Int32)
      ·skip
       obtain ⟨mz, hmz, hpz, hez⟩ := own_zero (longL c101 c102 c103 c104)
       obtain ⟨_, _, ⟨T132, L132, k132, n132⟩, -, X132, ⟨Lc132, hQ132, l132, y132, z132⟩, st132⟩ := Jvm.LawKit.callS X119 hx (y := mN34) hown (mvT hZ (tw hw 31 rfl)) (mvT hZ (tw hw 32 rfl)) (mvT hZ (tw hw 33 rfl)) (mvT hZ (tw hw 34 rfl)) (by decide) (backOf (W := 0) (rmWfU l Z a0 hw [] x115 (longL c101 c102 c103 c104) t115 kb115 cs0 mz fm T115.heap n0 O117 S_CS c_CS E115 Fv115 Fc115 V115 (by rw [longL_len]; decide) (by rw [longL_len]; decide) hmz hpz hez S_AD S_HI S_LO hcs S_FM r_FM) hZ (tw hw 34 rfl) (tw hw 33 rfl) (by decide) (by decide)) (g := (mkF m 190 #[vI p1, vI p2, vI p3, vI p4, vI p5, vI c101, vI c102, vI c103, vI c104, vI (p1 &&& (7 : Int32)), vR x115, vI 0, vI (Int32.ofNat ((longL c101 c102 c103 c104).length - prs (longL c101 c102 c103 c104)))] [(.ref x115)])) rfl (by rw [hml]; rfl) (argsL := [(.ref x115)]) (rest := []) (lenOf pd_5 rfl) rfl (by show 2 * 0 + _ ≤ _; exact Nat.le_of_eq rfl) (hb hby at_190) (fun _ _ => ⟨rfl, H119, (by decide : 4 + 0 ≤ _), (by decide : 1300 + 0 ≤ _)⟩)
       dsimp only [Pt.U, Pt.locs, Pt.cells, Pt.slots] at X132 l132 y132 z132 st132 hQ132
       subst l132 y132 z132
       obtain ⟨rfl, N132q, H132⟩ := hQ132
       have N132 := Fr.app N119 N132q
       obtain ⟨fs, hr, hrun, hended, eR, eW, eI, eS⟩ := Stand.leaveW (s := s) (vm₁ := s.vm) X132 hS0 (by rw [H132]; omega) (v := some (.int 1)) (fun h => by rw [Bd.returns] at h; cases h)
       refine ⟨_, _, pre131 _ ?_, hrun, hended, _, _, rfl, ?_, eR, eW, eI, eS.mono (by decide) (by decide)⟩
       ·skip
        show SS p e below T119 m 173 #[vI p1, vI p2, vI p3, vI p4, vI p5, vI c101, vI c102, vI c103, vI c104, vI (p1 &&& (7 : Int32)), vR x115, .unset, vI (Int32.ofNat ((longL c101 c102 c103 c104).length - prs (longL c101 c102 c103 c104)))] [(.int c103)] _
        refine XS.ifYes X119.here hx rfl (pc0 := 173) (pc' := 185) rfl (hb hby at_173) rfl ((if0 _ _).trans (teq hc130).1) (by decide) (by decide) ?_
        refine XS.iconst X119.here hx rfl (hb hby at_185) ?_
        refine XS.istore X119.here hx rfl (hb hby at_186) rfl (l' := #[vI p1, vI p2, vI p3, vI p4, vI p5, vI c101, vI c102, vI c103, vI c104, vI (p1 &&& (7 : Int32)), vR x115, vI 0, vI (Int32.ofNat ((longL c101 c102 c103 c104).length - prs (longL c101 c102 c103 c104)))]) rfl ?_
        refine XS.aload X119.here hx rfl (hb hby at_188) rfl rfl ?_
        show SS p e below T119 m 190 #[vI p1, vI p2, vI p3, vI p4, vI p5, vI c101, vI c102, vI c103, vI c104, vI (p1 &&& (7 : Int32)), vR x115, vI 0, vI (Int32.ofNat ((longL c101 c102 c103 c104).length - prs (longL c101 c102 c103 c104)))] [(.ref x115)] _
        refine st132 _ ?_
        refine XS.iload X132.here hx rfl (hb hby at_193) rfl ?_
        refine XS.icmpNo X132.here hx rfl (hb hby at_195) rfl (teq (own_wf0 (c := c103) (by simp [longL]) hc130 hpz : (wfR ((longL c101 c102 c103 c104).length - prs (longL c101 c102 c103 c104)) mz (longL c101 c102 c103 c104).length) = (0 : Int32))).2 ?_
        refine XS.iconst X132.here hx rfl (hb hby at_198) ?_
        refine XS.goto X132.here hx rfl (pc0 := 199) (pc' := 203) rfl (hb hby at_199) (by decide) (by decide) ?_
        show SS p e below T132 m 203 #[vI p1, vI p2, vI p3, vI p4, vI p5, vI c101, vI c102, vI c103, vI c104, vI (p1 &&& (7 : Int32)), vR x115, vI 0, vI (Int32.ofNat ((longL c101 c102 c103 c104).length - prs (longL c101 c102 c103 c104)))] [(.int 1)] _
        exact retN X132 hx (t := .boolean) Bd.returns (by simp) (hb hby at_203) hr
       ·show Q_rm0 Z p1 p2 p3 p4 p5 cs0 fm h0 n0 _ T132.heap _
        rw [H132]
        exact ⟨rfl, N132⟩
      ·skip
       have pre134 : ∀ t, SS p e below T119 m 178 #[vI p1, vI p2, vI p3, vI p4, vI p5, vI c101, vI c102, vI c103, vI c104, vI (p1 &&& (7 : Int32)), vR x115, .unset, vI (Int32.ofNat ((longL c101 c102 c103 c104).length - prs (longL c101 c102 c103 c104)))] [(.int c104)] t → Steps p.tables e below (s₁.setTop (entryFrame m #[(.int p1), (.int p2), (.int p3), (.int p4), (.int p5)] maxLocals)) t := by
        intro t kt
        refine pre131 _ ?_
        show SS p e below T119 m 173 #[vI p1, vI p2, vI p3, vI p4, vI p5, vI c101, vI c102, vI c103, vI c104, vI (p1 &&& (7 : Int32)), vR x115, .unset, vI (Int32.ofNat ((longL c101 c102 c103 c104).length - prs (longL c101 c102 c103 c104)))] [(.int c103)] _
        refine XS.ifNo X119.here hx rfl (hb hby at_173) rfl ((if0 _ _).trans (feq hc130).1) ?_
        refine XS.iload X119.here hx rfl (hb hby at_176) rfl ?_
        exact kt
       by_cases hc133 : c104 = (0 : Int32)
       ·skip
        obtain ⟨mz, hmz, hpz, hez⟩ := own_zero (longL c101 c102 c103 c104)
        obtain ⟨_, _, ⟨T135, L135, k135, n135⟩, -, X135, ⟨Lc135, hQ135, l135, y135, z135⟩, st135⟩ := Jvm.LawKit.callS X119 hx (y := mN34) hown (mvT hZ (tw hw 31 rfl)) (mvT hZ (tw hw 32 rfl)) (mvT hZ (tw hw 33 rfl)) (mvT hZ (tw hw 34 rfl)) (by decide) (backOf (W := 0) (rmWfU l Z a0 hw [] x115 (longL c101 c102 c103 c104) t115 kb115 cs0 mz fm T115.heap n0 O117 S_CS c_CS E115 Fv115 Fc115 V115 (by rw [longL_len]; decide) (by rw [longL_len]; decide) hmz hpz hez S_AD S_HI S_LO hcs S_FM r_FM) hZ (tw hw 34 rfl) (tw hw 33 rfl) (by decide) (by decide)) (g := (mkF m 190 #[vI p1, vI p2, vI p3, vI p4, vI p5, vI c101, vI c102, vI c103, vI c104, vI (p1 &&& (7 : Int32)), vR x115, vI 0, vI (Int32.ofNat ((longL c101 c102 c103 c104).length - prs (longL c101 c102 c103 c104)))] [(.ref x115)])) rfl (by rw [hml]; rfl) (argsL := [(.ref x115)]) (rest := []) (lenOf pd_5 rfl) rfl (by show 2 * 0 + _ ≤ _; exact Nat.le_of_eq rfl) (hb hby at_190) (fun _ _ => ⟨rfl, H119, (by decide : 4 + 0 ≤ _), (by decide : 1300 + 0 ≤ _)⟩)
        dsimp only [Pt.U, Pt.locs, Pt.cells, Pt.slots] at X135 l135 y135 z135 st135 hQ135
        subst l135 y135 z135
        obtain ⟨rfl, N135q, H135⟩ := hQ135
        have N135 := Fr.app N119 N135q
        obtain ⟨fs, hr, hrun, hended, eR, eW, eI, eS⟩ := Stand.leaveW (s := s) (vm₁ := s.vm) X135 hS0 (by rw [H135]; omega) (v := some (.int 1)) (fun h => by rw [Bd.returns] at h; cases h)
        refine ⟨_, _, pre134 _ ?_, hrun, hended, _, _, rfl, ?_, eR, eW, eI, eS.mono (by decide) (by decide)⟩
        ·skip
         show SS p e below T119 m 178 #[vI p1, vI p2, vI p3, vI p4, vI p5, vI c101, vI c102, vI c103, vI c104, vI (p1 &&& (7 : Int32)), vR x115, .unset, vI (Int32.ofNat ((longL c101 c102 c103 c104).length - prs (longL c101 c102 c103 c104)))] [(.int c104)] _
         refine XS.ifYes X119.here hx rfl (pc0 := 178) (pc' := 185) rfl (hb hby at_178) rfl ((if0 _ _).trans (teq hc133).1) (by decide) (by decide) ?_
         refine XS.iconst X119.here hx rfl (hb hby at_185) ?_
         refine XS.istore X119.here hx rfl (hb hby at_186) rfl (l' := #[vI p1, vI p2, vI p3, vI p4, vI p5, vI c101, vI c102, vI c103, vI c104, vI (p1 &&& (7 : Int32)), vR x115, vI 0, vI (Int32.ofNat ((longL c101 c102 c103 c104).length - prs (longL c101 c102 c103 c104)))]) rfl ?_
         refine XS.aload X119.here hx rfl (hb hby at_188) rfl rfl ?_
         show SS p e below T119 m 190 #[vI p1, vI p2, vI p3, vI p4, vI p5, vI c101, vI c102, vI c103, vI c104, vI (p1 &&& (7 : Int32)), vR x115, vI 0, vI (Int32.ofNat ((longL c101 c102 c103 c104).length - prs (longL c101 c102 c103 c104)))] [(.ref x115)] _
         refine st135 _ ?_
         refine XS.iload X135.here hx rfl (hb hby at_193) rfl ?_
         refine XS.icmpNo X135.here hx rfl (hb hby at_195) rfl (teq (own_wf0 (c := c104) (by simp [longL]) hc133 hpz : (wfR ((longL c101 c102 c103 c104).length - prs (longL c101 c102 c103 c104)) mz (longL c101 c102 c103 c104).length) = (0 : Int32))).2 ?_
         refine XS.iconst X135.here hx rfl (hb hby at_198) ?_
         refine XS.goto X135.here hx rfl (pc0 := 199) (pc' := 203) rfl (hb hby at_199) (by decide) (by decide) ?_
         show SS p e below T135 m 203 #[vI p1, vI p2, vI p3, vI p4, vI p5, vI c101, vI c102, vI c103, vI c104, vI (p1 &&& (7 : Int32)), vR x115, vI 0, vI (Int32.ofNat ((longL c101 c102 c103 c104).length - prs (longL c101 c102 c103 c104)))] [(.int 1)] _
         exact retN X135 hx (t := .boolean) Bd.returns (by simp) (hb hby at_203) hr
        ·show Q_rm0 Z p1 p2 p3 p4 p5 cs0 fm h0 n0 _ T135.heap _
         rw [H135]
         exact ⟨rfl, N135⟩
       ·skip
        obtain ⟨mz, hmz, hpz, hez⟩ := own_zero (longL c101 c102 c103 c104)
        obtain ⟨_, _, ⟨T136, L136, k136, n136⟩, -, X136, ⟨Lc136, hQ136, l136, y136, z136⟩, st136⟩ := Jvm.LawKit.callS X119 hx (y := mN34) hown (mvT hZ (tw hw 31 rfl)) (mvT hZ (tw hw 32 rfl)) (mvT hZ (tw hw 33 rfl)) (mvT hZ (tw hw 34 rfl)) (by decide) (backOf (W := 0) (rmWfU l Z a0 hw [] x115 (longL c101 c102 c103 c104) t115 kb115 cs0 mz fm T115.heap n0 O117 S_CS c_CS E115 Fv115 Fc115 V115 (by rw [longL_len]; decide) (by rw [longL_len]; decide) hmz hpz hez S_AD S_HI S_LO hcs S_FM r_FM) hZ (tw hw 34 rfl) (tw hw 33 rfl) (by decide) (by decide)) (g := (mkF m 190 #[vI p1, vI p2, vI p3, vI p4, vI p5, vI c101, vI c102, vI c103, vI c104, vI (p1 &&& (7 : Int32)), vR x115, vI 1, vI (Int32.ofNat ((longL c101 c102 c103 c104).length - prs (longL c101 c102 c103 c104)))] [(.ref x115)])) rfl (by rw [hml]; rfl) (argsL := [(.ref x115)]) (rest := []) (lenOf pd_5 rfl) rfl (by show 2 * 0 + _ ≤ _; exact Nat.le_of_eq rfl) (hb hby at_190) (fun _ _ => ⟨rfl, H119, (by decide : 4 + 0 ≤ _), (by decide : 1300 + 0 ≤ _)⟩)
        dsimp only [Pt.U, Pt.locs, Pt.cells, Pt.slots] at X136 l136 y136 z136 st136 hQ136
        subst l136 y136 z136
        obtain ⟨rfl, N136q, H136⟩ := hQ136
        have N136 := Fr.app N119 N136q
        obtain ⟨fs, hr, hrun, hended, eR, eW, eI, eS⟩ := Stand.leaveW (s := s) (vm₁ := s.vm) X136 hS0 (by rw [H136]; omega) (v := some (.int 1)) (fun h => by rw [Bd.returns] at h; cases h)
        refine ⟨_, _, pre134 _ ?_, hrun, hended, _, _, rfl, ?_, eR, eW, eI, eS.mono (by decide) (by decide)⟩
        ·skip
         show SS p e below T119 m 178 #[vI p1, vI p2, vI p3, vI p4, vI p5, vI c101, vI c102, vI c103, vI c104, vI (p1 &&& (7 : Int32)), vR x115, .unset, vI (Int32.ofNat ((longL c101 c102 c103 c104).length - prs (longL c101 c102 c103 c104)))] [(.int c104)] _
         refine XS.ifNo X119.here hx rfl (hb hby at_178) rfl ((if0 _ _).trans (feq hc133).1) ?_
         refine XS.iconst X119.here hx rfl (hb hby at_181) ?_
         refine XS.goto X119.here hx rfl (pc0 := 182) (pc' := 186) rfl (hb hby at_182) (by decide) (by decide) ?_
         refine XS.istore X119.here hx rfl (hb hby at_186) rfl (l' := #[vI p1, vI p2, vI p3, vI p4, vI p5, vI c101, vI c102, vI c103, vI c104, vI (p1 &&& (7 : Int32)), vR x115, vI 1, vI (Int32.ofNat ((longL c101 c102 c103 c104).length - prs (longL c101 c102 c103 c104)))]) rfl ?_
         refine XS.aload X119.here hx rfl (hb hby at_188) rfl rfl ?_
         show SS p e below T119 m 190 #[vI p1, vI p2, vI p3, vI p4, vI p5, vI c101, vI c102, vI c103, vI c104, vI (p1 &&& (7 : Int32)), vR x115, vI 1, vI (Int32.ofNat ((longL c101 c102 c103 c104).length - prs (longL c101 c102 c103 c104)))] [(.ref x115)] _
         refine st136 _ ?_
         refine XS.iload X136.here hx rfl (hb hby at_193) rfl ?_
         refine XS.icmpNo X136.here hx rfl (hb hby at_195) rfl (teq (own_wf1 (own_longMem (P := fun c => ¬ c = 0) (by decide) hc124 hc127 hc130 hc133) (Nat.le_of_not_lt fun q => hc121 ((own_lt (i := 256) (by decide) (by rw [longL_len]; omega)).mpr q)) hez : (wfR ((longL c101 c102 c103 c104).length - prs (longL c101 c102 c103 c104)) mz (longL c101 c102 c103 c104).length) = (1 : Int32))).2 ?_
         refine XS.iconst X136.here hx rfl (hb hby at_198) ?_
         refine XS.goto X136.here hx rfl (pc0 := 199) (pc' := 203) rfl (hb hby at_199) (by decide) (by decide) ?_
         show SS p e below T136 m 203 #[vI p1, vI p2, vI p3, vI p4, vI p5, vI c101, vI c102, vI c103, vI c104, vI (p1 &&& (7 : Int32)), vR x115, vI 1, vI (Int32.ofNat ((longL c101 c102 c103 c104).length - prs (longL c101 c102 c103 c104)))] [(.int 1)] _
         exact retN X136 hx (t := .boolean) Bd.returns (by simp) (hb hby at_203) hr
        ·show Q_rm0 Z p1 p2 p3 p4 p5 cs0 fm h0 n0 _ T136.heap _
         rw [H136]
         exact ⟨rfl, N136⟩
 ·skip
  have pre137 : ∀ t, SS p e below T104 m 37 #[vI p1, vI p2, vI p3, vI p4, vI p5, vI c101, vI c102, vI c103, vI c104, vI (p1 &&& (7 : Int32)), .unset, .unset, .unset] [] t → Steps p.tables e below (s₁.setTop (entryFrame m #[(.int p1), (.int p2), (.int p3), (.int p4), (.int p5)] maxLocals)) t := by
   intro t kt
   refine pre106 _ ?_
   show SS p e below T104 m 34 #[vI p1, vI p2, vI p3, vI p4, vI p5, vI c101, vI c102, vI c103, vI c104, vI (p1 &&& (7 : Int32)), .unset, .unset, .unset] [(.int 4), (.int (p1 &&& (7 : Int32)))] _
   refine XS.icmpNo X104.here hx rfl (hb hby at_34) rfl (flt hc105).2.2.1 ?_
   exact kt
  rcases own_sel p1 hc105 with hm | hm | hm | hm | hm
  ·skip
   have hr138 : (p1 &&& (7 : Int32)) = (0 : Int32) := hm
   obtain ⟨_, _, ⟨T139, L139, k139, n139⟩, -, X139q, hSq139, hgr139, ⟨Lc139, hQ139, l139, y139, z139⟩, st139⟩ := callSS X104 hx (y := mN37) hown (mvT hZ (tw hw 6 rfl)) (mvT hZ (tw hw 7 rfl)) (mvT hZ (tw hw 2 rfl)) (mvT hZ (tw hw 8 rfl)) (by decide) (own_backH (s := s) (vm0 := s.vm) (EL := EL1) (W := 0) (rmShort0 l Z a0 hw [] (0 : Int32) c101 c102 c103 c104  h0 n0 O0 rfl) hZ (tw hw 8 rfl) (tw hw 2 rfl) (by decide) (by decide) hEW hCH) (g := (mkF m 47 #[vI p1, vI p2, vI p3, vI p4, vI p5, vI c101, vI c102, vI c103, vI c104, vI 0, .unset, .unset, .unset] [(.int c104), (.int c103), (.int c102), (.int c101), (.int 0)])) rfl (by rw [hml]; rfl) (argsL := [(.int 0), (.int c101), (.int c102), (.int c103), (.int c104)]) (rest := []) (lenOf pd_1 rfl) rfl (by show 2 * 0 + _ ≤ _; exact Nat.le_of_eq rfl) (hb hby at_47) (fun _ _ => ⟨rfl, H104, (by decide : 0 + 4 ≤ _), (by decide : 0 + 20 ≤ _)⟩)
   dsimp only [Pt.U, Pt.locs, Pt.cells, Pt.slots] at X139q l139 y139 z139 st139 hQ139 hSq139 hgr139
   subst l139 y139 z139
   obtain ⟨X139, hS139, hZ139, hown139⟩ := rebS (s := s) (vm0 := s.vm) hS0 (by rw [H104]; omega) X139q hSq139 hgr139 hZ hown
   obtain ⟨x139, t139, kb139, rfl, N139q, K139, gx139, E139, Fv139, Fc139, tx139, V139⟩ := hQ139
   have ltx139 : @LT.lt Nat _ x139 T139.heap.size := E139.lt
   have ltt139 : @LT.lt Nat _ t139 T139.heap.size := V139.lt
   have sz1_K139 := K139.1
   have N139 := Fr.app N104 N139q
   have O141 : Old Z n0 T139.heap := O0.keep K139 all0
   obtain ⟨_, _, ⟨T140, L140, k140, n140⟩, -, X140, ⟨Lc140, hQ140, l140, y140, z140⟩, st140⟩ := Jvm.LawKit.callS X139 hx (y := mN34) hown139 (mvT hZ139 (tw hw 31 rfl)) (mvT hZ139 (tw hw 32 rfl)) (mvT hZ139 (tw hw 33 rfl)) (mvT hZ139 (tw hw 34 rfl)) (by decide) (backOf (W := 0) (rmWfE l Z a0 hw [] x139 ([] : List Int32) t139 kb139 cs0 T139.heap n0 O141 S_CS c_CS E139 Fv139 Fc139 V139 (by decide) rfl) hZ139 (tw hw 34 rfl) (tw hw 33 rfl) (by decide) (by decide)) (g := (mkF m 190 #[vI p1, vI p2, vI p3, vI p4, vI p5, vI c101, vI c102, vI c103, vI c104, vI 0, vR x139, vI 0, .unset] [(.ref x139)])) rfl (by rw [hml]; rfl) (argsL := [(.ref x139)]) (rest := []) (lenOf pd_5 rfl) rfl (by show 2 * 0 + _ ≤ _; exact Nat.le_of_eq rfl) (hb hby at_190) (fun _ _ => ⟨rfl, rfl, (by decide : 4 + 0 ≤ _), (by decide : 20 + 0 ≤ _)⟩)
   dsimp only [Pt.U, Pt.locs, Pt.cells, Pt.slots] at X140 l140 y140 z140 st140 hQ140
   subst l140 y140 z140
   obtain ⟨rfl, N140q, H140⟩ := hQ140
   have N140 := Fr.app N139 N140q
   obtain ⟨fs, hr, hrun, hended, eR, eW, eI, eS⟩ := Stand.leaveW (s := s) (vm₁ := T139.vm) X140 hS139 (by rw [H140]; omega) (v := some (.int 1)) (fun h => by rw [Bd.returns] at h; cases h)
   refine ⟨_, _, pre137 _ ?_, hrun, hended, _, _, rfl, ?_, eR, eW, eI, eS.mono (by decide) (by decide)⟩
   ·skip
    show SS p e below T104 m 37 #[vI p1, vI p2, vI p3, vI p4, vI p5, vI c101, vI c102, vI c103, vI c104, vI (p1 &&& (7 : Int32)), .unset, .unset, .unset] [] _
    rw [hr138]
    refine XS.iload X104.here hx rfl (hb hby at_37) rfl ?_
    refine XS.iload X104.here hx rfl (hb hby at_39) rfl ?_
    refine XS.iload X104.here hx rfl (hb hby at_41) rfl ?_
    refine XS.iload X104.here hx rfl (hb hby at_43) rfl ?_
    refine XS.iload X104.here hx rfl (hb hby at_45) rfl ?_
    show SS p e below T104 m 47 #[vI p1, vI p2, vI p3, vI p4, vI p5, vI c101, vI c102, vI c103, vI c104, vI 0, .unset, .unset, .unset] [(.int c104), (.int c103), (.int c102), (.int c101), (.int 0)] _
    refine st139.trans ?_
    refine XS.astore X139.here hx rfl (hb hby at_50) rfl rfl (l' := #[vI p1, vI p2, vI p3, vI p4, vI p5, vI c101, vI c102, vI c103, vI c104, vI 0, vR x139, .unset, .unset]) rfl ?_
    refine XS.iload X139.here hx rfl (hb hby at_52) rfl ?_
    refine XS.ifYes X139.here hx rfl (pc0 := 54) (pc' := 105) rfl (hb hby at_54) rfl ((if0 _ _).trans (flt (by decide : ¬ ((0 : Int32) < (0 : Int32)))).2.2.2) (by decide) (by decide) ?_
    refine XS.iconst X139.here hx rfl (hb hby at_105) ?_
    refine XS.istore X139.here hx rfl (hb hby at_106) rfl (l' := #[vI p1, vI p2, vI p3, vI p4, vI p5, vI c101, vI c102, vI c103, vI c104, vI 0, vR x139, vI 0, .unset]) rfl ?_
    refine XS.goto X139.here hx rfl (pc0 := 108) (pc' := 188) rfl (hb hby at_108) (by decide) (by decide) ?_
    refine XS.aload X139.here hx rfl (hb hby at_188) rfl rfl ?_
    show SS p e below T139 m 190 #[vI p1, vI p2, vI p3, vI p4, vI p5, vI c101, vI c102, vI c103, vI c104, vI 0, vR x139, vI 0, .unset] [(.ref x139)] _
    refine st140 _ ?_
    refine XS.iload X140.here hx rfl (hb hby at_193) rfl ?_
    refine XS.icmpNo X140.here hx rfl (hb hby at_195) rfl (teq (by decide : (0 : Int32) = (0 : Int32))).2 ?_
    refine XS.iconst X140.here hx rfl (hb hby at_198) ?_
    refine XS.goto X140.here hx rfl (pc0 := 199) (pc' := 203) rfl (hb hby at_199) (by decide) (by decide) ?_
    show SS p e below T140 m 203 #[vI p1, vI p2, vI p3, vI p4, vI p5, vI c101, vI c102, vI c103, vI c104, vI 0, vR x139, vI 0, .unset] [(.int 1)] _
    exact retN X140 hx (t := .boolean) Bd.returns (by simp) (hb hby at_203) hr
   ·show Q_rm0 Z p1 p2 p3 p4 p5 cs0 fm h0 n0 _ T140.heap _
    rw [H140]
    exact ⟨rfl, N140⟩
  ·skip
   have hr142 : (p1 &&& (7 : Int32)) = (1 : Int32) := hm
   have hcs : ∀ c ∈ ([c101] : List Int32), ¬ c < 0 ∧ ¬ (65535 : Int32) < c := (by intro c hc; simp only [List.mem_cons, List.not_mem_nil, or_false] at hc; rcases hc with rfl <;> assumption)
   have pre143 : ∀ t, SS p e below T104 m 39 #[vI p1, vI p2, vI p3, vI p4, vI p5, vI c101, vI c102, vI c103, vI c104, vI 1, .unset, .unset, .unset] [(.int 1)] t → Steps p.tables e below (s₁.setTop (entryFrame m #[(.int p1), (.int p2), (.int p3), (.int p4), (.int p5)] maxLocals)) t := by
    intro t kt
    refine pre137 _ ?_
    show SS p e below T104 m 37 #[vI p1, vI p2, vI p3, vI p4, vI p5, vI c101, vI c102, vI c103, vI c104, vI (p1 &&& (7 : Int32)), .unset, .unset, .unset] [] _
    rw [hr142]
    refine XS.iload X104.here hx rfl (hb hby at_37) rfl ?_
    exact kt
   rcases own_big ([c101] : List Int32) with hL | ⟨m1, hj, hpre, hend⟩
   ·skip
    obtain ⟨_, _, ⟨T144, L144, k144, n144⟩, -, X144, ⟨Lc144, hQ144, l144, y144, z144⟩, st144⟩ := Jvm.LawKit.callS X104 hx (y := mN37) hown (mvT hZ (tw hw 6 rfl)) (mvT hZ (tw hw 7 rfl)) (mvT hZ (tw hw 2 rfl)) (mvT hZ (tw hw 8 rfl)) (by decide) (backOf (W := 0) (rmShort1L l Z a0 hw [] (1 : Int32) c101 c102 c103 c104 cs0 h0 n0 O0 S_CS c_CS rfl r101 (own_rngL hcs hL)) hZ (tw hw 8 rfl) (tw hw 2 rfl) (by decide) (by decide)) (g := (mkF m 47 #[vI p1, vI p2, vI p3, vI p4, vI p5, vI c101, vI c102, vI c103, vI c104, vI 1, .unset, .unset, .unset] [(.int c104), (.int c103), (.int c102), (.int c101), (.int 1)])) rfl (by rw [hml]; rfl) (argsL := [(.int 1), (.int c101), (.int c102), (.int c103), (.int c104)]) (rest := []) (lenOf pd_1 rfl) rfl (by show 2 * 0 + _ ≤ _; exact Nat.le_of_eq rfl) (hb hby at_47) (fun _ _ => ⟨rfl, H104, (by decide : 0 + 4 ≤ _), (by decide : 0 + 800 ≤ _)⟩)
    dsimp only [Pt.U, Pt.locs, Pt.cells, Pt.slots] at X144 l144 y144 z144 st144 hQ144
    subst l144 y144 z144
    obtain ⟨x144, t144, kb144, rfl, N144q, K144, gx144, E144, Fv144, Fc144, tx144, V144⟩ := hQ144
    have ltx144 : @LT.lt Nat _ x144 T144.heap.size := E144.lt
    have ltt144 : @LT.lt Nat _ t144 T144.heap.size := V144.lt
    have sz1_K144 := K144.1
    have N144 := Fr.app N104 N144q
    have pre146 : ∀ t, SS p e below T144 m 65 #[vI p1, vI p2, vI p3, vI p4, vI p5, vI c101, vI c102, vI c103, vI c104, vI 1, vR x144, .unset, .unset] [(.int c101)] t → Steps p.tables e below (s₁.setTop (entryFrame m #[(.int p1), (.int p2), (.int p3), (.int p4), (.int p5)] maxLocals)) t := by
     intro t kt
     refine pre143 _ ?_
     show SS p e below T104 m 39 #[vI p1, vI p2, vI p3, vI p4, vI p5, vI c101, vI c102, vI c103, vI c104, vI 1, .unset, .unset, .unset] [(.int 1)] _
     refine XS.iload X104.here hx rfl (hb hby at_39) rfl ?_
     refine XS.iload X104.here hx rfl (hb hby at_41) rfl ?_
     refine XS.iload X104.here hx rfl (hb hby at_43) rfl ?_
     refine XS.iload X104.here hx rfl (hb hby at_45) rfl ?_
     show SS p e below T104 m 47 #[vI p1, vI p2, vI p3, vI p4, vI p5, vI c101, vI c102, vI c103, vI c104, vI 1, .unset, .unset, .unset] [(.int c104), (.int c103), (.int c102), (.int c101), (.int 1)] _
     refine st144 _ ?_
     refine XS.astore X144.here hx rfl (hb hby at_50) rfl rfl (l' := #[vI p1, vI p2, vI p3, vI p4, vI p5, vI c101, vI c102, vI c103, vI c104, vI 1, vR x144, .unset, .unset]) rfl ?_
     refine XS.iload X144.here hx rfl (hb hby at_52) rfl ?_
     refine XS.ifNo X144.here hx rfl (hb hby at_54) rfl ((if0 _ _).trans (tlt (by decide : (0 : Int32) < (1 : Int32))).2.2.2) ?_
     refine XS.iload X144.here hx rfl (hb hby at_57) rfl ?_
     refine XS.iconst X144.here hx rfl (hb hby at_59) ?_
     refine XS.icmpNo X144.here hx rfl (hb hby at_60) rfl (flt (by decide : ¬ ((1 : Int32) < (1 : Int32)))).1 ?_
     refine XS.iload X144.here hx rfl (hb hby at_63) rfl ?_
     exact kt
    by_cases hc145 : c101 = (0 : Int32)
    ·skip
     obtain ⟨mz, hmz, hpz, hez⟩ := own_zero (([c101] : List Int32).map (fun c => c.toInt8.toInt32))
     have O148 : Old Z n0 T144.heap := O0.keep K144 all0
     obtain ⟨_, _, ⟨T147, L147, k147, n147⟩, -, X147, ⟨Lc147, hQ147, l147, y147, z147⟩, st147⟩ := Jvm.LawKit.callS X144 hx (y := mN34) hown (mvT hZ (tw hw 31 rfl)) (mvT hZ (tw hw 32 rfl)) (mvT hZ (tw hw 33 rfl)) (mvT hZ (tw hw 34 rfl)) (by decide) (backOf (W := 0) (rmWfL l Z a0 hw [] x144 (([c101] : List Int32).map (fun c => c.toInt8.toInt32)) t144 kb144 cs0 mz T144.heap n0 O148 S_CS c_CS E144 Fv144 Fc144 V144 (by simp) (by simp) hmz hpz hez) hZ (tw hw 34 rfl) (tw hw 33 rfl) (by decide) (by decide)) (g := (mkF m 190 #[vI p1, vI p2, vI p3, vI p4, vI p5, vI c101, vI c102, vI c103, vI c104, vI 1, vR x144, vI 0, .unset] [(.ref x144)])) rfl (by rw [hml]; rfl) (argsL := [(.ref x144)]) (rest := []) (lenOf pd_5 rfl) rfl (by show 2 * 0 + _ ≤ _; exact Nat.le_of_eq rfl) (hb hby at_190) (fun _ _ => ⟨rfl, rfl, (by decide : 4 + 0 ≤ _), (by decide : 800 + 0 ≤ _)⟩)
     dsimp only [Pt.U, Pt.locs, Pt.cells, Pt.slots] at X147 l147 y147 z147 st147 hQ147
     subst l147 y147 z147
     obtain ⟨rfl, N147q, H147⟩ := hQ147
     have N147 := Fr.app N144 N147q
     obtain ⟨fs, hr, hrun, hended, eR, eW, eI, eS⟩ := Stand.leaveW (s := s) (vm₁ := s.vm) X147 hS0 (by rw [H147]; omega) (v := some (.int 1)) (fun h => by rw [Bd.returns] at h; cases h)
     refine ⟨_, _, pre146 _ ?_, hrun, hended, _, _, rfl, ?_, eR, eW, eI, eS.mono (by decide) (by decide)⟩
     ·skip
      show SS p e below T144 m 65 #[vI p1, vI p2, vI p3, vI p4, vI p5, vI c101, vI c102, vI c103, vI c104, vI 1, vR x144, .unset, .unset] [(.int c101)] _
      refine XS.ifYes X144.here hx rfl (pc0 := 65) (pc' := 105) rfl (hb hby at_65) rfl ((if0 _ _).trans (teq hc145).1) (by decide) (by decide) ?_
      refine XS.iconst X144.here hx rfl (hb hby at_105) ?_
      refine XS.istore X144.here hx rfl (hb hby at_106) rfl (l' := #[vI p1, vI p2, vI p3, vI p4, vI p5, vI c101, vI c102, vI c103, vI c104, vI 1, vR x144, vI 0, .unset]) rfl ?_
      refine XS.goto X144.here hx rfl (pc0 := 108) (pc' := 188) rfl (hb hby at_108) (by decide) (by decide) ?_
      refine XS.aload X144.here hx rfl (hb hby at_188) rfl rfl ?_
      show SS p e below T144 m 190 #[vI p1, vI p2, vI p3, vI p4, vI p5, vI c101, vI c102, vI c103, vI c104, vI 1, vR x144, vI 0, .unset] [(.ref x144)] _
      refine st147 _ ?_
      refine XS.iload X147.here hx rfl (hb hby at_193) rfl ?_
      refine XS.icmpNo X147.here hx rfl (hb hby at_195) rfl (teq (own_wf0 (own_zL (show c101 ∈ ([c101] : List Int32) by simp) hc145) rfl hpz : (wfR (([c101] : List Int32).map (fun c => c.toInt8.toInt32)).length mz (([c101] : List Int32).map (fun c => c.toInt8.toInt32)).length) = (0 : Int32))).2 ?_
      refine XS.iconst X147.here hx rfl (hb hby at_198) ?_
      refine XS.goto X147.here hx rfl (pc0 := 199) (pc' := 203) rfl (hb hby at_199) (by decide) (by decide) ?_
      show SS p e below T147 m 203 #[vI p1, vI p2, vI p3, vI p4, vI p5, vI c101, vI c102, vI c103, vI c104, vI 1, vR x144, vI 0, .unset] [(.int 1)] _
      exact retN X147 hx (t := .boolean) Bd.returns (by simp) (hb hby at_203) hr
     ·show Q_rm0 Z p1 p2 p3 p4 p5 cs0 fm h0 n0 _ T147.heap _
      rw [H147]
      exact ⟨rfl, N147⟩
    ·skip
     obtain ⟨mz, hmz, hpz, hez⟩ := own_zero (([c101] : List Int32).map (fun c => c.toInt8.toInt32))
     have O150 : Old Z n0 T144.heap := O0.keep K144 all0
     obtain ⟨_, _, ⟨T149, L149, k149, n149⟩, -, X149, ⟨Lc149, hQ149, l149, y149, z149⟩, st149⟩ := Jvm.LawKit.callS X144 hx (y := mN34) hown (mvT hZ (tw hw 31 rfl)) (mvT hZ (tw hw 32 rfl)) (mvT hZ (tw hw 33 rfl)) (mvT hZ (tw hw 34 rfl)) (by decide) (backOf (W := 0) (rmWfL l Z a0 hw [] x144 (([c101] : List Int32).map (fun c => c.toInt8.toInt32)) t144 kb144 cs0 mz T144.heap n0 O150 S_CS c_CS E144 Fv144 Fc144 V144 (by simp) (by simp) hmz hpz hez) hZ (tw hw 34 rfl) (tw hw 33 rfl) (by decide) (by decide)) (g := (mkF m 190 #[vI p1, vI p2, vI p3, vI p4, vI p5, vI c101, vI c102, vI c103, vI c104, vI 1, vR x144, vI 1, .unset] [(.ref x144)])) rfl (by rw [hml]; rfl) (argsL := [(.ref x144)]) (rest := []) (lenOf pd_5 rfl) rfl (by show 2 * 0 + _ ≤ _; exact Nat.le_of_eq rfl) (hb hby at_190) (fun _ _ => ⟨rfl, rfl, (by decide : 4 + 0 ≤ _), (by decide : 800 + 0 ≤ _)⟩)
     dsimp only [Pt.U, Pt.locs, Pt.cells, Pt.slots] at X149 l149 y149 z149 st149 hQ149
     subst l149 y149 z149
     obtain ⟨rfl, N149q, H149⟩ := hQ149
     have N149 := Fr.app N144 N149q
     obtain ⟨fs, hr, hrun, hended, eR, eW, eI, eS⟩ := Stand.leaveW (s := s) (vm₁ := s.vm) X149 hS0 (by rw [H149]; omega) (v := some (.int 1)) (fun h => by rw [Bd.returns] at h; cases h)
     refine ⟨_, _, pre146 _ ?_, hrun, hended, _, _, rfl, ?_, eR, eW, eI, eS.mono (by decide) (by decide)⟩
     ·skip
      show SS p e below T144 m 65 #[vI p1, vI p2, vI p3, vI p4, vI p5, vI c101, vI c102, vI c103, vI c104, vI 1, vR x144, .unset, .unset] [(.int c101)] _
      refine XS.ifNo X144.here hx rfl (hb hby at_65) rfl ((if0 _ _).trans (feq hc145).1) ?_
      refine XS.iload X144.here hx rfl (hb hby at_68) rfl ?_
      refine XS.iconst X144.here hx rfl (hb hby at_70) ?_
      refine XS.icmpYes X144.here hx rfl (pc0 := 71) (pc' := 79) rfl (hb hby at_71) rfl (tlt (by decide : (1 : Int32) < (2 : Int32))).1 (by decide) (by decide) ?_
      refine XS.iload X144.here hx rfl (hb hby at_79) rfl ?_
      refine XS.iconst X144.here hx rfl (hb hby at_81) ?_
      refine XS.icmpYes X144.here hx rfl (pc0 := 82) (pc' := 90) rfl (hb hby at_82) rfl (tlt (by decide : (1 : Int32) < (3 : Int32))).1 (by decide) (by decide) ?_
      refine XS.iload X144.here hx rfl (hb hby at_90) rfl ?_
      refine XS.iconst X144.here hx rfl (hb hby at_92) ?_
      refine XS.icmpYes X144.here hx rfl (pc0 := 93) (pc' := 101) rfl (hb hby at_93) rfl (tlt (by decide : (1 : Int32) < (4 : Int32))).1 (by decide) (by decide) ?_
      show SS p e below T144 m 101 #[vI p1, vI p2, vI p3, vI p4, vI p5, vI c101, vI c102, vI c103, vI c104, vI 1, vR x144, .unset, .unset] [] _
      refine XS.iconst X144.here hx rfl (hb hby at_101) ?_
      refine XS.goto X144.here hx rfl (pc0 := 102) (pc' := 106) rfl (hb hby at_102) (by decide) (by decide) ?_
      refine XS.istore X144.here hx rfl (hb hby at_106) rfl (l' := #[vI p1, vI p2, vI p3, vI p4, vI p5, vI c101, vI c102, vI c103, vI c104, vI 1, vR x144, vI 1, .unset]) rfl ?_
      refine XS.goto X144.here hx rfl (pc0 := 108) (pc' := 188) rfl (hb hby at_108) (by decide) (by decide) ?_
      refine XS.aload X144.here hx rfl (hb hby at_188) rfl rfl ?_
      show SS p e below T144 m 190 #[vI p1, vI p2, vI p3, vI p4, vI p5, vI c101, vI c102, vI c103, vI c104, vI 1, vR x144, vI 1, .unset] [(.ref x144)] _
      refine st149 _ ?_
      refine XS.iload X149.here hx rfl (hb hby at_193) rfl ?_
      refine XS.icmpNo X149.here hx rfl (hb hby at_195) rfl (teq (own_wf1 (own_nzL (own_rngL hcs hL) (show ∀ c ∈ ([c101] : List Int32), ¬ c = 0 from (by intro c hc; simp only [List.mem_cons, List.not_mem_nil, or_false] at hc; rcases hc with rfl <;> assumption))) (by simp) hez : (wfR (([c101] : List Int32).map (fun c => c.toInt8.toInt32)).length mz (([c101] : List Int32).map (fun c => c.toInt8.toInt32)).length) = (1 : Int32))).2 ?_
      refine XS.iconst X149.here hx rfl (hb hby at_198) ?_
      refine XS.goto X149.here hx rfl (pc0 := 199) (pc' := 203) rfl (hb hby at_199) (by decide) (by decide) ?_
      show SS p e below T149 m 203 #[vI p1, vI p2, vI p3, vI p4, vI p5, vI c101, vI c102, vI c103, vI c104, vI 1, vR x144, vI 1, .unset] [(.int 1)] _
      exact retN X149 hx (t := .boolean) Bd.returns (by simp) (hb hby at_203) hr
     ·show Q_rm0 Z p1 p2 p3 p4 p5 cs0 fm h0 n0 _ T149.heap _
      rw [H149]
      exact ⟨rfl, N149⟩
   ·skip
    obtain ⟨_, _, ⟨T151, L151, k151, n151⟩, -, X151, ⟨Lc151, hQ151, l151, y151, z151⟩, st151⟩ := Jvm.LawKit.callS X104 hx (y := mN37) hown (mvT hZ (tw hw 6 rfl)) (mvT hZ (tw hw 7 rfl)) (mvT hZ (tw hw 2 rfl)) (mvT hZ (tw hw 8 rfl)) (by decide) (backOf (W := 0) (rmShort1U l Z a0 hw [] (1 : Int32) c101 c102 c103 c104 cs0 m1 h0 n0 O0 S_CS c_CS S_AD S_HI S_LO rfl r101 hcs hj hpre hend) hZ (tw hw 8 rfl) (tw hw 2 rfl) (by decide) (by decide)) (g := (mkF m 47 #[vI p1, vI p2, vI p3, vI p4, vI p5, vI c101, vI c102, vI c103, vI c104, vI 1, .unset, .unset, .unset] [(.int c104), (.int c103), (.int c102), (.int c101), (.int 1)])) rfl (by rw [hml]; rfl) (argsL := [(.int 1), (.int c101), (.int c102), (.int c103), (.int c104)]) (rest := []) (lenOf pd_1 rfl) rfl (by show 2 * 0 + _ ≤ _; exact Nat.le_of_eq rfl) (hb hby at_47) (fun _ _ => ⟨rfl, H104, (by decide : 0 + 4 ≤ _), (by decide : 0 + 800 ≤ _)⟩)
    dsimp only [Pt.U, Pt.locs, Pt.cells, Pt.slots] at X151 l151 y151 z151 st151 hQ151
    subst l151 y151 z151
    obtain ⟨x151, t151, kb151, rfl, N151q, K151, gx151, E151, Fv151, Fc151, tx151, V151⟩ := hQ151
    have ltx151 : @LT.lt Nat _ x151 T151.heap.size := E151.lt
    have ltt151 : @LT.lt Nat _ t151 T151.heap.size := V151.lt
    have sz1_K151 := K151.1
    have N151 := Fr.app N104 N151q
    have pre153 : ∀ t, SS p e below T151 m 65 #[vI p1, vI p2, vI p3, vI p4, vI p5, vI c101, vI c102, vI c103, vI c104, vI 1, vR x151, .unset, .unset] [(.int c101)] t → Steps p.tables e below (s₁.setTop (entryFrame m #[(.int p1), (.int p2), (.int p3), (.int p4), (.int p5)] maxLocals)) t := by
     intro t kt
     refine pre143 _ ?_
     show SS p e below T104 m 39 #[vI p1, vI p2, vI p3, vI p4, vI p5, vI c101, vI c102, vI c103, vI c104, vI 1, .unset, .unset, .unset] [(.int 1)] _
     refine XS.iload X104.here hx rfl (hb hby at_39) rfl ?_
     refine XS.iload X104.here hx rfl (hb hby at_41) rfl ?_
     refine XS.iload X104.here hx rfl (hb hby at_43) rfl ?_
     refine XS.iload X104.here hx rfl (hb hby at_45) rfl ?_
     show SS p e below T104 m 47 #[vI p1, vI p2, vI p3, vI p4, vI p5, vI c101, vI c102, vI c103, vI c104, vI 1, .unset, .unset, .unset] [(.int c104), (.int c103), (.int c102), (.int c101), (.int 1)] _
     refine st151 _ ?_
     refine XS.astore X151.here hx rfl (hb hby at_50) rfl rfl (l' := #[vI p1, vI p2, vI p3, vI p4, vI p5, vI c101, vI c102, vI c103, vI c104, vI 1, vR x151, .unset, .unset]) rfl ?_
     refine XS.iload X151.here hx rfl (hb hby at_52) rfl ?_
     refine XS.ifNo X151.here hx rfl (hb hby at_54) rfl ((if0 _ _).trans (tlt (by decide : (0 : Int32) < (1 : Int32))).2.2.2) ?_
     refine XS.iload X151.here hx rfl (hb hby at_57) rfl ?_
     refine XS.iconst X151.here hx rfl (hb hby at_59) ?_
     refine XS.icmpNo X151.here hx rfl (hb hby at_60) rfl (flt (by decide : ¬ ((1 : Int32) < (1 : Int32)))).1 ?_
     refine XS.iload X151.here hx rfl (hb hby at_63) rfl ?_
     exact kt
    by_cases hc152 : c101 = (0 : Int32)
    ·skip
     obtain ⟨mz, hmz, hpz, hez⟩ := own_zero ([c101] : List Int32)
     have O155 : Old Z n0 T151.heap := O0.keep K151 all0
     obtain ⟨_, _, ⟨T154, L154, k154, n154⟩, -, X154, ⟨Lc154, hQ154, l154, y154, z154⟩, st154⟩ := Jvm.LawKit.callS X151 hx (y := mN34) hown (mvT hZ (tw hw 31 rfl)) (mvT hZ (tw hw 32 rfl)) (mvT hZ (tw hw 33 rfl)) (mvT hZ (tw hw 34 rfl)) (by decide) (backOf (W := 0) (rmWfU l Z a0 hw [] x151 ([c101] : List Int32) t151 kb151 cs0 mz fm T151.heap n0 O155 S_CS c_CS E151 Fv151 Fc151 V151 (by simp) (by simp) hmz hpz hez S_AD S_HI S_LO hcs S_FM r_FM) hZ (tw hw 34 rfl) (tw hw 33 rfl) (by decide) (by decide)) (g := (mkF m 190 #[vI p1, vI p2, vI p3, vI p4, vI p5, vI c101, vI c102, vI c103, vI c104, vI 1, vR x151, vI 0, .unset] [(.ref x151)])) rfl (by rw [hml]; rfl) (argsL := [(.ref x151)]) (rest := []) (lenOf pd_5 rfl) rfl (by show 2 * 0 + _ ≤ _; exact Nat.le_of_eq rfl) (hb hby at_190) (fun _ _ => ⟨rfl, rfl, (by decide : 4 + 0 ≤ _), (by decide : 800 + 0 ≤ _)⟩)
     dsimp only [Pt.U, Pt.locs, Pt.cells, Pt.slots] at X154 l154 y154 z154 st154 hQ154
     subst l154 y154 z154
     obtain ⟨rfl, N154q, H154⟩ := hQ154
     have N154 := Fr.app N151 N154q
     obtain ⟨fs, hr, hrun, hended, eR, eW, eI, eS⟩ := Stand.leaveW (s := s) (vm₁ := s.vm) X154 hS0 (by rw [H154]; omega) (v := some (.int 1)) (fun h => by rw [Bd.returns] at h; cases h)
     refine ⟨_, _, pre153 _ ?_, hrun, hended, _, _, rfl, ?_, eR, eW, eI, eS.mono (by decide) (by decide)⟩
     ·skip
      show SS p e below T151 m 65 #[vI p1, vI p2, vI p3, vI p4, vI p5, vI c101, vI c102, vI c103, vI c104, vI 1, vR x151, .unset, .unset] [(.int c101)] _
      refine XS.ifYes X151.here hx rfl (pc0 := 65) (pc' := 105) rfl (hb hby at_65) rfl ((if0 _ _).trans (teq hc152).1) (by decide) (by decide) ?_
      refine XS.iconst X151.here hx rfl (hb hby at_105) ?_
      refine XS.istore X151.here hx rfl (hb hby at_106) rfl (l' := #[vI p1, vI p2, vI p3, vI p4, vI p5, vI c101, vI c102, vI c103, vI c104, vI 1, vR x151, vI 0, .unset]) rfl ?_
      refine XS.goto X151.here hx rfl (pc0 := 108) (pc' := 188) rfl (hb hby at_108) (by decide) (by decide) ?_
      refine XS.aload X151.here hx rfl (hb hby at_188) rfl rfl ?_
      show SS p e below T151 m 190 #[vI p1, vI p2, vI p3, vI p4, vI p5, vI c101, vI c102, vI c103, vI c104, vI 1, vR x151, vI 0, .unset] [(.ref x151)] _
      refine st154 _ ?_
      refine XS.iload X154.here hx rfl (hb hby at_193) rfl ?_
      refine XS.icmpNo X154.here hx rfl (hb hby at_195) rfl (teq (own_wf0 (show c101 ∈ ([c101] : List Int32) by simp) hc152 hpz : (wfR (([c101] : List Int32).length - prs ([c101] : List Int32)) mz ([c101] : List Int32).length) = (0 : Int32))).2 ?_
      refine XS.iconst X154.here hx rfl (hb hby at_198) ?_
      refine XS.goto X154.here hx rfl (pc0 := 199) (pc' := 203) rfl (hb hby at_199) (by decide) (by decide) ?_
      show SS p e below T154 m 203 #[vI p1, vI p2, vI p3, vI p4, vI p5, vI c101, vI c102, vI c103, vI c104, vI 1, vR x151, vI 0, .unset] [(.int 1)] _
      exact retN X154 hx (t := .boolean) Bd.returns (by simp) (hb hby at_203) hr
     ·show Q_rm0 Z p1 p2 p3 p4 p5 cs0 fm h0 n0 _ T154.heap _
      rw [H154]
      exact ⟨rfl, N154⟩
    ·skip
     obtain ⟨mz, hmz, hpz, hez⟩ := own_zero ([c101] : List Int32)
     have O157 : Old Z n0 T151.heap := O0.keep K151 all0
     obtain ⟨_, _, ⟨T156, L156, k156, n156⟩, -, X156, ⟨Lc156, hQ156, l156, y156, z156⟩, st156⟩ := Jvm.LawKit.callS X151 hx (y := mN34) hown (mvT hZ (tw hw 31 rfl)) (mvT hZ (tw hw 32 rfl)) (mvT hZ (tw hw 33 rfl)) (mvT hZ (tw hw 34 rfl)) (by decide) (backOf (W := 0) (rmWfU l Z a0 hw [] x151 ([c101] : List Int32) t151 kb151 cs0 mz fm T151.heap n0 O157 S_CS c_CS E151 Fv151 Fc151 V151 (by simp) (by simp) hmz hpz hez S_AD S_HI S_LO hcs S_FM r_FM) hZ (tw hw 34 rfl) (tw hw 33 rfl) (by decide) (by decide)) (g := (mkF m 190 #[vI p1, vI p2, vI p3, vI p4, vI p5, vI c101, vI c102, vI c103, vI c104, vI 1, vR x151, vI 1, .unset] [(.ref x151)])) rfl (by rw [hml]; rfl) (argsL := [(.ref x151)]) (rest := []) (lenOf pd_5 rfl) rfl (by show 2 * 0 + _ ≤ _; exact Nat.le_of_eq rfl) (hb hby at_190) (fun _ _ => ⟨rfl, rfl, (by decide : 4 + 0 ≤ _), (by decide : 800 + 0 ≤ _)⟩)
     dsimp only [Pt.U, Pt.locs, Pt.cells, Pt.slots] at X156 l156 y156 z156 st156 hQ156
     subst l156 y156 z156
     obtain ⟨rfl, N156q, H156⟩ := hQ156
     have N156 := Fr.app N151 N156q
     obtain ⟨fs, hr, hrun, hended, eR, eW, eI, eS⟩ := Stand.leaveW (s := s) (vm₁ := s.vm) X156 hS0 (by rw [H156]; omega) (v := some (.int 1)) (fun h => by rw [Bd.returns] at h; cases h)
     refine ⟨_, _, pre153 _ ?_, hrun, hended, _, _, rfl, ?_, eR, eW, eI, eS.mono (by decide) (by decide)⟩
     ·skip
      show SS p e below T151 m 65 #[vI p1, vI p2, vI p3, vI p4, vI p5, vI c101, vI c102, vI c103, vI c104, vI 1, vR x151, .unset, .unset] [(.int c101)] _
      refine XS.ifNo X151.here hx rfl (hb hby at_65) rfl ((if0 _ _).trans (feq hc152).1) ?_
      refine XS.iload X151.here hx rfl (hb hby at_68) rfl ?_
      refine XS.iconst X151.here hx rfl (hb hby at_70) ?_
      refine XS.icmpYes X151.here hx rfl (pc0 := 71) (pc' := 79) rfl (hb hby at_71) rfl (tlt (by decide : (1 : Int32) < (2 : Int32))).1 (by decide) (by decide) ?_
      refine XS.iload X151.here hx rfl (hb hby at_79) rfl ?_
      refine XS.iconst X151.here hx rfl (hb hby at_81) ?_
      refine XS.icmpYes X151.here hx rfl (pc0 := 82) (pc' := 90) rfl (hb hby at_82) rfl (tlt (by decide : (1 : Int32) < (3 : Int32))).1 (by decide) (by decide) ?_
      refine XS.iload X151.here hx rfl (hb hby at_90) rfl ?_
      refine XS.iconst X151.here hx rfl (hb hby at_92) ?_
      refine XS.icmpYes X151.here hx rfl (pc0 := 93) (pc' := 101) rfl (hb hby at_93) rfl (tlt (by decide : (1 : Int32) < (4 : Int32))).1 (by decide) (by decide) ?_
      show SS p e below T151 m 101 #[vI p1, vI p2, vI p3, vI p4, vI p5, vI c101, vI c102, vI c103, vI c104, vI 1, vR x151, .unset, .unset] [] _
      refine XS.iconst X151.here hx rfl (hb hby at_101) ?_
      refine XS.goto X151.here hx rfl (pc0 := 102) (pc' := 106) rfl (hb hby at_102) (by decide) (by decide) ?_
      refine XS.istore X151.here hx rfl (hb hby at_106) rfl (l' := #[vI p1, vI p2, vI p3, vI p4, vI p5, vI c101, vI c102, vI c103, vI c104, vI 1, vR x151, vI 1, .unset]) rfl ?_
      refine XS.goto X151.here hx rfl (pc0 := 108) (pc' := 188) rfl (hb hby at_108) (by decide) (by decide) ?_
      refine XS.aload X151.here hx rfl (hb hby at_188) rfl rfl ?_
      show SS p e below T151 m 190 #[vI p1, vI p2, vI p3, vI p4, vI p5, vI c101, vI c102, vI c103, vI c104, vI 1, vR x151, vI 1, .unset] [(.ref x151)] _
      refine st156 _ ?_
      refine XS.iload X156.here hx rfl (hb hby at_193) rfl ?_
      refine XS.icmpNo X156.here hx rfl (hb hby at_195) rfl (teq (own_wf1 (show ∀ c ∈ ([c101] : List Int32), ¬ c = 0 from (by intro c hc; simp only [List.mem_cons, List.not_mem_nil, or_false] at hc; rcases hc with rfl <;> assumption)) (Nat.le_trans (Nat.sub_le _ _) (by simp)) hez : (wfR (([c101] : List Int32).length - prs ([c101] : List Int32)) mz ([c101] : List Int32).length) = (1 : Int32))).2 ?_
      refine XS.iconst X156.here hx rfl (hb hby at_198) ?_
      refine XS.goto X156.here hx rfl (pc0 := 199) (pc' := 203) rfl (hb hby at_199) (by decide) (by decide) ?_
      show SS p e below T156 m 203 #[vI p1, vI p2, vI p3, vI p4, vI p5, vI c101, vI c102, vI c103, vI c104, vI 1, vR x151, vI 1, .unset] [(.int 1)] _
      exact retN X156 hx (t := .boolean) Bd.returns (by simp) (hb hby at_203) hr
     ·show Q_rm0 Z p1 p2 p3 p4 p5 cs0 fm h0 n0 _ T156.heap _
      rw [H156]
      exact ⟨rfl, N156⟩
  ·skip
   have hr158 : (p1 &&& (7 : Int32)) = (2 : Int32) := hm
   have hcs : ∀ c ∈ ([c101, c102] : List Int32), ¬ c < 0 ∧ ¬ (65535 : Int32) < c := (by intro c hc; simp only [List.mem_cons, List.not_mem_nil, or_false] at hc; rcases hc with rfl | rfl <;> assumption)
   have pre159 : ∀ t, SS p e below T104 m 39 #[vI p1, vI p2, vI p3, vI p4, vI p5, vI c101, vI c102, vI c103, vI c104, vI 2, .unset, .unset, .unset] [(.int 2)] t → Steps p.tables e below (s₁.setTop (entryFrame m #[(.int p1), (.int p2), (.int p3), (.int p4), (.int p5)] maxLocals)) t := by
    intro t kt
    refine pre137 _ ?_
    show SS p e below T104 m 37 #[vI p1, vI p2, vI p3, vI p4, vI p5, vI c101, vI c102, vI c103, vI c104, vI (p1 &&& (7 : Int32)), .unset, .unset, .unset] [] _
    rw [hr158]
    refine XS.iload X104.here hx rfl (hb hby at_37) rfl ?_
    exact kt
   rcases own_big ([c101, c102] : List Int32) with hL | ⟨m1, hj, hpre, hend⟩
   ·skip
    obtain ⟨_, _, ⟨T160, L160, k160, n160⟩, -, X160, ⟨Lc160, hQ160, l160, y160, z160⟩, st160⟩ := Jvm.LawKit.callS X104 hx (y := mN37) hown (mvT hZ (tw hw 6 rfl)) (mvT hZ (tw hw 7 rfl)) (mvT hZ (tw hw 2 rfl)) (mvT hZ (tw hw 8 rfl)) (by decide) (backOf (W := 0) (rmShort2L l Z a0 hw [] (2 : Int32) c101 c102 c103 c104 cs0 h0 n0 O0 S_CS c_CS rfl r101 r102 (own_rngL hcs hL)) hZ (tw hw 8 rfl) (tw hw 2 rfl) (by decide) (by decide)) (g := (mkF m 47 #[vI p1, vI p2, vI p3, vI p4, vI p5, vI c101, vI c102, vI c103, vI c104, vI 2, .unset, .unset, .unset] [(.int c104), (.int c103), (.int c102), (.int c101), (.int 2)])) rfl (by rw [hml]; rfl) (argsL := [(.int 2), (.int c101), (.int c102), (.int c103), (.int c104)]) (rest := []) (lenOf pd_1 rfl) rfl (by show 2 * 0 + _ ≤ _; exact Nat.le_of_eq rfl) (hb hby at_47) (fun _ _ => ⟨rfl, H104, (by decide : 0 + 4 ≤ _), (by decide : 0 + 800 ≤ _)⟩)
    dsimp only [Pt.U, Pt.locs, Pt.cells, Pt.slots] at X160 l160 y160 z160 st160 hQ160
    subst l160 y160 z160
    obtain ⟨x160, t160, kb160, rfl, N160q, K160, gx160, E160, Fv160, Fc160, tx160, V160⟩ := hQ160
    have ltx160 : @LT.lt Nat _ x160 T160.heap.size := E160.lt
    have ltt160 : @LT.lt Nat _ t160 T160.heap.size := V160.lt
    have sz1_K160 := K160.1
    have N160 := Fr.app N104 N160q
    have pre162 : ∀ t, SS p e below T160 m 65 #[vI p1, vI p2, vI p3, vI p4, vI p5, vI c101, vI c102, vI c103, vI c104, vI 2, vR x160, .unset, .unset] [(.int c101)] t → Steps p.tables e below (s₁.setTop (entryFrame m #[(.int p1), (.int p2), (.int p3), (.int p4), (.int p5)] maxLocals)) t := by
     intro t kt
     refine pre159 _ ?_
     show SS p e below T104 m 39 #[vI p1, vI p2, vI p3, vI p4, vI p5, vI c101, vI c102, vI c103, vI c104, vI 2, .unset, .unset, .unset] [(.int 2)] _
     refine XS.iload X104.here hx rfl (hb hby at_39) rfl ?_
     refine XS.iload X104.here hx rfl (hb hby at_41) rfl ?_
     refine XS.iload X104.here hx rfl (hb hby at_43) rfl ?_
     refine XS.iload X104.here hx rfl (hb hby at_45) rfl ?_
     show SS p e below T104 m 47 #[vI p1, vI p2, vI p3, vI p4, vI p5, vI c101, vI c102, vI c103, vI c104, vI 2, .unset, .unset, .unset] [(.int c104), (.int c103), (.int c102), (.int c101), (.int 2)] _
     refine st160 _ ?_
     refine XS.astore X160.here hx rfl (hb hby at_50) rfl rfl (l' := #[vI p1, vI p2, vI p3, vI p4, vI p5, vI c101, vI c102, vI c103, vI c104, vI 2, vR x160, .unset, .unset]) rfl ?_
     refine XS.iload X160.here hx rfl (hb hby at_52) rfl ?_
     refine XS.ifNo X160.here hx rfl (hb hby at_54) rfl ((if0 _ _).trans (tlt (by decide : (0 : Int32) < (2 : Int32))).2.2.2) ?_
     refine XS.iload X160.here hx rfl (hb hby at_57) rfl ?_
     refine XS.iconst X160.here hx rfl (hb hby at_59) ?_
     refine XS.icmpNo X160.here hx rfl (hb hby at_60) rfl (flt (by decide : ¬ ((2 : Int32) < (1 : Int32)))).1 ?_
     refine XS.iload X160.here hx rfl (hb hby at_63) rfl ?_
     exact kt
    by_cases hc161 : c101 = (0 : Int32)
    ·skip
     obtain ⟨mz, hmz, hpz, hez⟩ := own_zero (([c101, c102] : List Int32).map (fun c => c.toInt8.toInt32))
     have O164 : Old Z n0 T160.heap := O0.keep K160 all0
     obtain ⟨_, _, ⟨T163, L163, k163, n163⟩, -, X163, ⟨Lc163, hQ163, l163, y163, z163⟩, st163⟩ := Jvm.LawKit.callS X160 hx (y := mN34) hown (mvT hZ (tw hw 31 rfl)) (mvT hZ (tw hw 32 rfl)) (mvT hZ (tw hw 33 rfl)) (mvT hZ (tw hw 34 rfl)) (by decide) (backOf (W := 0) (rmWfL l Z a0 hw [] x160 (([c101, c102] : List Int32).map (fun c => c.toInt8.toInt32)) t160 kb160 cs0 mz T160.heap n0 O164 S_CS c_CS E160 Fv160 Fc160 V160 (by simp) (by simp) hmz hpz hez) hZ (tw hw 34 rfl) (tw hw 33 rfl) (by decide) (by decide)) (g := (mkF m 190 #[vI p1, vI p2, vI p3, vI p4, vI p5, vI c101, vI c102, vI c103, vI c104, vI 2, vR x160, vI 0, .unset] [(.ref x160)])) rfl (by rw [hml]; rfl) (argsL := [(.ref x160)]) (rest := []) (lenOf pd_5 rfl) rfl (by show 2 * 0 + _ ≤ _; exact Nat.le_of_eq rfl) (hb hby at_190) (fun _ _ => ⟨rfl, rfl, (by decide : 4 + 0 ≤ _), (by decide : 800 + 0 ≤ _)⟩)
     dsimp only [Pt.U, Pt.locs, Pt.cells, Pt.slots] at X163 l163 y163 z163 st163 hQ163
     subst l163 y163 z163
     obtain ⟨rfl, N163q, H163⟩ := hQ163
     have N163 := Fr.app N160 N163q
     obtain ⟨fs, hr, hrun, hended, eR, eW, eI, eS⟩ := Stand.leaveW (s := s) (vm₁ := s.vm) X163 hS0 (by rw [H163]; omega) (v := some (.int 1)) (fun h => by rw [Bd.returns] at h; cases h)
     refine ⟨_, _, pre162 _ ?_, hrun, hended, _, _, rfl, ?_, eR, eW, eI, eS.mono (by decide) (by decide)⟩
     ·skip
      show SS p e below T160 m 65 #[vI p1, vI p2, vI p3, vI p4, vI p5, vI c101, vI c102, vI c103, vI c104, vI 2, vR x160, .unset, .unset] [(.int c101)] _
      refine XS.ifYes X160.here hx rfl (pc0 := 65) (pc' := 105) rfl (hb hby at_65) rfl ((if0 _ _).trans (teq hc161).1) (by decide) (by decide) ?_
      refine XS.iconst X160.here hx rfl (hb hby at_105) ?_
      refine XS.istore X160.here hx rfl (hb hby at_106) rfl (l' := #[vI p1, vI p2, vI p3, vI p4, vI p5, vI c101, vI c102, vI c103, vI c104, vI 2, vR x160, vI 0, .unset]) rfl ?_
      refine XS.goto X160.here hx rfl (pc0 := 108) (pc' := 188) rfl (hb hby at_108) (by decide) (by decide) ?_
      refine XS.aload X160.here hx rfl (hb hby at_188) rfl rfl ?_
      show SS p e below T160 m 190 #[vI p1, vI p2, vI p3, vI p4, vI p5, vI c101, vI c102, vI c103, vI c104, vI 2, vR x160, vI 0, .unset] [(.ref x160)] _
      refine st163 _ ?_
      refine XS.iload X163.here hx rfl (hb hby at_193) rfl ?_
      refine XS.icmpNo X163.here hx rfl (hb hby at_195) rfl (teq (own_wf0 (own_zL (show c101 ∈ ([c101, c102] : List Int32) by simp) hc161) rfl hpz : (wfR (([c101, c102] : List Int32).map (fun c => c.toInt8.toInt32)).length mz (([c101, c102] : List Int32).map (fun c => c.toInt8.toInt32)).length) = (0 : Int32))).2 ?_
      refine XS.iconst X163.here hx rfl (hb hby at_198) ?_
      refine XS.goto X163.here hx rfl (pc0 := 199) (pc' := 203) rfl (hb hby at_199) (by decide) (by decide) ?_
      show SS p e below T163 m 203 #[vI p1, vI p2, vI p3, vI p4, vI p5, vI c101, vI c102, vI c103, vI c104, vI 2, vR x160, vI 0, .unset] [(.int 1)] _
      exact retN X163 hx (t := .boolean) Bd.returns (by simp) (hb hby at_203) hr
     ·show Q_rm0 Z p1 p2 p3 p4 p5 cs0 fm h0 n0 _ T163.heap _
      rw [H163]
      exact ⟨rfl, N163⟩
    ·skip
     have pre166 : ∀ t, SS p e below T160 m 76 #[vI p1, vI p2, vI p3, vI p4, vI p5, vI c101, vI c102, vI c103, vI c104, vI 2, vR x160, .unset, .unset] [(.int c102)] t → Steps p.tables e below (s₁.setTop (entryFrame m #[(.int p1), (.int p2), (.int p3), (.int p4), (.int p5)] maxLocals)) t := by
      intro t kt
      refine pre162 _ ?_
      show SS p e below T160 m 65 #[vI p1, vI p2, vI p3, vI p4, vI p5, vI c101, vI c102, vI c103, vI c104, vI 2, vR x160, .unset, .unset] [(.int c101)] _
      refine XS.ifNo X160.here hx rfl (hb hby at_65) rfl ((if0 _ _).trans (feq hc161).1) ?_
      refine XS.iload X160.here hx rfl (hb hby at_68) rfl ?_
      refine XS.iconst X160.here hx rfl (hb hby at_70) ?_
      refine XS.icmpNo X160.here hx rfl (hb hby at_71) rfl (flt (by decide : ¬ ((2 : Int32) < (2 : Int32)))).1 ?_
      refine XS.iload X160.here hx rfl (hb hby at_74) rfl ?_
      exact kt
     by_cases hc165 : c102 = (0 : Int32)
     ·skip
      obtain ⟨mz, hmz, hpz, hez⟩ := own_zero (([c101, c102] : List Int32).map (fun c => c.toInt8.toInt32))
      have O168 : Old Z n0 T160.heap := O0.keep K160 all0
      obtain ⟨_, _, ⟨T167, L167, k167, n167⟩, -, X167, ⟨Lc167, hQ167, l167, y167, z167⟩, st167⟩ := Jvm.LawKit.callS X160 hx (y := mN34) hown (mvT hZ (tw hw 31 rfl)) (mvT hZ (tw hw 32 rfl)) (mvT hZ (tw hw 33 rfl)) (mvT hZ (tw hw 34 rfl)) (by decide) (backOf (W := 0) (rmWfL l Z a0 hw [] x160 (([c101, c102] : List Int32).map (fun c => c.toInt8.toInt32)) t160 kb160 cs0 mz T160.heap n0 O168 S_CS c_CS E160 Fv160 Fc160 V160 (by simp) (by simp) hmz hpz hez) hZ (tw hw 34 rfl) (tw hw 33 rfl) (by decide) (by decide)) (g := (mkF m 190 #[vI p1, vI p2, vI p3, vI p4, vI p5, vI c101, vI c102, vI c103, vI c104, vI 2, vR x160, vI 0, .unset] [(.ref x160)])) rfl (by rw [hml]; rfl) (argsL := [(.ref x160)]) (rest := []) (lenOf pd_5 rfl) rfl (by show 2 * 0 + _ ≤ _; exact Nat.le_of_eq rfl) (hb hby at_190) (fun _ _ => ⟨rfl, rfl, (by decide : 4 + 0 ≤ _), (by decide : 800 + 0 ≤ _)⟩)
      dsimp only [Pt.U, Pt.locs, Pt.cells, Pt.slots] at X167 l167 y167 z167 st167 hQ167
      subst l167 y167 z167
      obtain ⟨rfl, N167q, H167⟩ := hQ167
      have N167 := Fr.app N160 N167q
      obtain ⟨fs, hr, hrun, hended, eR, eW, eI, eS⟩ := Stand.leaveW (s := s) (vm₁ := s.vm) X167 hS0 (by rw [H167]; omega) (v := some (.int 1)) (fun h => by rw [Bd.returns] at h; cases h)
      refine ⟨_, _, pre166 _ ?_, hrun, hended, _, _, rfl, ?_, eR, eW, eI, eS.mono (by decide) (by decide)⟩
      ·skip
       show SS p e below T160 m 76 #[vI p1, vI p2, vI p3, vI p4, vI p5, vI c101, vI c102, vI c103, vI c104, vI 2, vR x160, .unset, .unset] [(.int c102)] _
       refine XS.ifYes X160.here hx rfl (pc0 := 76) (pc' := 105) rfl (hb hby at_76) rfl ((if0 _ _).trans (teq hc165).1) (by decide) (by decide) ?_
       refine XS.iconst X160.here hx rfl (hb hby at_105) ?_
       refine XS.istore X160.here hx rfl (hb hby at_106) rfl (l' := #[vI p1, vI p2, vI p3, vI p4, vI p5, vI c101, vI c102, vI c103, vI c104, vI 2, vR x160, vI 0, .unset]) rfl ?_
       refine XS.goto X160.here hx rfl (pc0 := 108) (pc' := 188) rfl (hb hby at_108) (by decide) (by decide) ?_
       refine XS.aload X160.here hx rfl (hb hby at_188) rfl rfl ?_
       show SS p e below T160 m 190 #[vI p1, vI p2, vI p3, vI p4, vI p5, vI c101, vI c102, vI c103, vI c104, vI 2, vR x160, vI 0, .unset] [(.ref x160)] _
       refine st167 _ ?_
       refine XS.iload X167.here hx rfl (hb hby at_193) rfl ?_
       refine XS.icmpNo X167.here hx rfl (hb hby at_195) rfl (teq (own_wf0 (own_zL (show c102 ∈ ([c101, c102] : List Int32) by simp) hc165) rfl hpz : (wfR (([c101, c102] : List Int32).map (fun c => c.toInt8.toInt32)).length mz (([c101, c102] : List Int32).map (fun c => c.toInt8.toInt32)).length) = (0 : Int32))).2 ?_
       refine XS.iconst X167.here hx rfl (hb hby at_198) ?_
       refine XS.goto X167.here hx rfl (pc0 := 199) (pc' := 203) rfl (hb hby at_199) (by decide) (by decide) ?_
       show SS p e below T167 m 203 #[vI p1, vI p2, vI p3, vI p4, vI p5, vI c101, vI c102, vI c103, vI c104, vI 2, vR x160, vI 0, .unset] [(.int 1)] _
       exact retN X167 hx (t := .boolean) Bd.returns (by simp) (hb hby at_203) hr
      ·show Q_rm0 Z p1 p2 p3 p4 p5 cs0 fm h0 n0 _ T167.heap _
       rw [H167]
       exact ⟨rfl, N167⟩
     ·skip
      obtain ⟨mz, hmz, hpz, hez⟩ := own_zero (([c101, c102] : List Int32).map (fun c => c.toInt8.toInt32))
      have O170 : Old Z n0 T160.heap := O0.keep K160 all0
      obtain ⟨_, _, ⟨T169, L169, k169, n169⟩, -, X169, ⟨Lc169, hQ169, l169, y169, z169⟩, st169⟩ := Jvm.LawKit.callS X160 hx (y := mN34) hown (mvT hZ (tw hw 31 rfl)) (mvT hZ (tw hw 32 rfl)) (mvT hZ (tw hw 33 rfl)) (mvT hZ (tw hw 34 rfl)) (by decide) (backOf (W := 0) (rmWfL l Z a0 hw [] x160 (([c101, c102] : List Int32).map (fun c => c.toInt8.toInt32)) t160 kb160 cs0 mz T160.heap n0 O170 S_CS c_CS E160 Fv160 Fc160 V160 (by simp) (by simp) hmz hpz hez) hZ (tw hw 34 rfl) (tw hw 33 rfl) (by decide) (by decide)) (g := (mkF m 190 #[vI p1, vI p2, vI p3, vI p4, vI p5, vI c101, vI c102, vI c103, vI c104, vI 2, vR x160, vI 1, .unset] [(.ref x160)])) rfl (by rw [hml]; rfl) (argsL := [(.ref x160)]) (rest := []) (lenOf pd_5 rfl) rfl (by show 2 * 0 + _ ≤ _; exact Nat.le_of_eq rfl) (hb hby at_190) (fun _ _ => ⟨rfl, rfl, (by decide : 4 + 0 ≤ _), (by decide : 800 + 0 ≤ _)⟩)
      dsimp only [Pt.U, Pt.locs, Pt.cells, Pt.slots] at X169 l169 y169 z169 st169 hQ169
      subst l169 y169 z169
      obtain ⟨rfl, N169q, H169⟩ := hQ169
      have N169 := Fr.app N160 N169q
      obtain ⟨fs, hr, hrun, hended, eR, eW, eI, eS⟩ := Stand.leaveW (s := s) (vm₁ := s.vm) X169 hS0 (by rw [H169]; omega) (v := some (.int 1)) (fun h => by rw [Bd.returns] at h; cases h)
      refine ⟨_, _, pre166 _ ?_, hrun, hended, _, _, rfl, ?_, eR, eW, eI, eS.mono (by decide) (by decide)⟩
      ·skip
       show SS p e below T160 m 76 #[vI p1, vI p2, vI p3, vI p4, vI p5, vI c101, vI c102, vI c103, vI c104, vI 2, vR x160, .unset, .unset] [(.int c102)] _
       refine XS.ifNo X160.here hx rfl (hb hby at_76) rfl ((if0 _ _).trans (feq hc165).1) ?_
       refine XS.iload X160.here hx rfl (hb hby at_79) rfl ?_
       refine XS.iconst X160.here hx rfl (hb hby at_81) ?_
       refine XS.icmpYes X160.here hx rfl (pc0 := 82) (pc' := 90) rfl (hb hby at_82) rfl (tlt (by decide : (2 : Int32) < (3 : Int32))).1 (by decide) (by decide) ?_
       refine XS.iload X160.here hx rfl (hb hby at_90) rfl ?_
       refine XS.iconst X160.here hx rfl (hb hby at_92) ?_
       refine XS.icmpYes X160.here hx rfl (pc0 := 93) (pc' := 101) rfl (hb hby at_93) rfl (tlt (by decide : (2 : Int32) < (4 : Int32))).1 (by decide) (by decide) ?_
       refine XS.iconst X160.here hx rfl (hb hby at_101) ?_
       refine XS.goto X160.here hx rfl (pc0 := 102) (pc' := 106) rfl (hb hby at_102) (by decide) (by decide) ?_
       refine XS.istore X160.here hx rfl (hb hby at_106) rfl (l' := #[vI p1, vI p2, vI p3, vI p4, vI p5, vI c101, vI c102, vI c103, vI c104, vI 2, vR x160, vI 1, .unset]) rfl ?_
       show SS p e below T160 m 108 #[vI p1, vI p2, vI p3, vI p4, vI p5, vI c101, vI c102, vI c103, vI c104, vI 2, vR x160, vI 1, .unset] [] _
       refine XS.goto X160.here hx rfl (pc0 := 108) (pc' := 188) rfl (hb hby at_108) (by decide) (by decide) ?_
       refine XS.aload X160.here hx rfl (hb hby at_188) rfl rfl ?_
       show SS p e below T160 m 190 #[vI p1, vI p2, vI p3, vI p4, vI p5, vI c101, vI c102, vI c103, vI c104, vI 2, vR x160, vI 1, .unset] [(.ref x160)] _
       refine st169 _ ?_
       refine XS.iload X169.here hx rfl (hb hby at_193) rfl ?_
       refine XS.icmpNo X169.here hx rfl (hb hby at_195) rfl (teq (own_wf1 (own_nzL (own_rngL hcs hL) (show ∀ c ∈ ([c101, c102] : List Int32), ¬ c = 0 from (by intro c hc; simp only [List.mem_cons, List.not_mem_nil, or_false] at hc; rcases hc with rfl | rfl <;> assumption))) (by simp) hez : (wfR (([c101, c102] : List Int32).map (fun c => c.toInt8.toInt32)).length mz (([c101, c102] : List Int32).map (fun c => c.toInt8.toInt32)).length) = (1 : Int32))).2 ?_
       refine XS.iconst X169.here hx rfl (hb hby at_198) ?_
       refine XS.goto X169.here hx rfl (pc0 := 199) (pc' := 203) rfl (hb hby at_199) (by decide) (by decide) ?_
       show SS p e below T169 m 203 #[vI p1, vI p2, vI p3, vI p4, vI p5, vI c101, vI c102, vI c103, vI c104, vI 2, vR x160, vI 1, .unset] [(.int 1)] _
       exact retN X169 hx (t := .boolean) Bd.returns (by simp) (hb hby at_203) hr
      ·show Q_rm0 Z p1 p2 p3 p4 p5 cs0 fm h0 n0 _ T169.heap _
       rw [H169]
       exact ⟨rfl, N169⟩
   ·skip
    obtain ⟨_, _, ⟨T171, L171, k171, n171⟩, -, X171, ⟨Lc171, hQ171, l171, y171, z171⟩, st171⟩ := Jvm.LawKit.callS X104 hx (y := mN37) hown (mvT hZ (tw hw 6 rfl)) (mvT hZ (tw hw 7 rfl)) (mvT hZ (tw hw 2 rfl)) (mvT hZ (tw hw 8 rfl)) (by decide) (backOf (W := 0) (rmShort2U l Z a0 hw [] (2 : Int32) c101 c102 c103 c104 cs0 m1 h0 n0 O0 S_CS c_CS S_AD S_HI S_LO rfl r101 r102 hcs hj hpre hend) hZ (tw hw 8 rfl) (tw hw 2 rfl) (by decide) (by decide)) (g := (mkF m 47 #[vI p1, vI p2, vI p3, vI p4, vI p5, vI c101, vI c102, vI c103, vI c104, vI 2, .unset, .unset, .unset] [(.int c104), (.int c103), (.int c102), (.int c101), (.int 2)])) rfl (by rw [hml]; rfl) (argsL := [(.int 2), (.int c101), (.int c102), (.int c103), (.int c104)]) (rest := []) (lenOf pd_1 rfl) rfl (by show 2 * 0 + _ ≤ _; exact Nat.le_of_eq rfl) (hb hby at_47) (fun _ _ => ⟨rfl, H104, (by decide : 0 + 4 ≤ _), (by decide : 0 + 800 ≤ _)⟩)
    dsimp only [Pt.U, Pt.locs, Pt.cells, Pt.slots] at X171 l171 y171 z171 st171 hQ171
    subst l171 y171 z171
    obtain ⟨x171, t171, kb171, rfl, N171q, K171, gx171, E171, Fv171, Fc171, tx171, V171⟩ := hQ171
    have ltx171 : @LT.lt Nat _ x171 T171.heap.size := E171.lt
    have ltt171 : @LT.lt Nat _ t171 T171.heap.size := V171.lt
    have sz1_K171 := K171.1
    have N171 := Fr.app N104 N171q
    have pre173 : ∀ t, SS p e below T171 m 65 #[vI p1, vI p2, vI p3, vI p4, vI p5, vI c101, vI c102, vI c103, vI c104, vI 2, vR x171, .unset, .unset] [(.int c101)] t → Steps p.tables e below (s₁.setTop (entryFrame m #[(.int p1), (.int p2), (.int p3), (.int p4), (.int p5)] maxLocals)) t := by
     intro t kt
     refine pre159 _ ?_
     show SS p e below T104 m 39 #[vI p1, vI p2, vI p3, vI p4, vI p5, vI c101, vI c102, vI c103, vI c104, vI 2, .unset, .unset, .unset] [(.int 2)] _
     refine XS.iload X104.here hx rfl (hb hby at_39) rfl ?_
     refine XS.iload X104.here hx rfl (hb hby at_41) rfl ?_
     refine XS.iload X104.here hx rfl (hb hby at_43) rfl ?_
     refine XS.iload X104.here hx rfl (hb hby at_45) rfl ?_
     show SS p e below T104 m 47 #[vI p1, vI p2, vI p3, vI p4, vI p5, vI c101, vI c102, vI c103, vI c104, vI 2, .unset, .unset, .unset] [(.int c104), (.int c103), (.int c102), (.int c101), (.int 2)] _
     refine st171 _ ?_
     refine XS.astore X171.here hx rfl (hb hby at_50) rfl rfl (l' := #[vI p1, vI p2, vI p3, vI p4, vI p5, vI c101, vI c102, vI c103, vI c104, vI 2, vR x171, .unset, .unset]) rfl ?_
     refine XS.iload X171.here hx rfl (hb hby at_52) rfl ?_
     refine XS.ifNo X171.here hx rfl (hb hby at_54) rfl ((if0 _ _).trans (tlt (by decide : (0 : Int32) < (2 : Int32))).2.2.2) ?_
     refine XS.iload X171.here hx rfl (hb hby at_57) rfl ?_
     refine XS.iconst X171.here hx rfl (hb hby at_59) ?_
     refine XS.icmpNo X171.here hx rfl (hb hby at_60) rfl (flt (by decide : ¬ ((2 : Int32) < (1 : Int32)))).1 ?_
     refine XS.iload X171.here hx rfl (hb hby at_63) rfl ?_
     exact kt
    by_cases hc172 : c101 = (0 : Int32)
    ·skip
     obtain ⟨mz, hmz, hpz, hez⟩ := own_zero ([c101, c102] : List Int32)
     have O175 : Old Z n0 T171.heap := O0.keep K171 all0
     obtain ⟨_, _, ⟨T174, L174, k174, n174⟩, -, X174, ⟨Lc174, hQ174, l174, y174, z174⟩, st174⟩ := Jvm.LawKit.callS X171 hx (y := mN34) hown (mvT hZ (tw hw 31 rfl)) (mvT hZ (tw hw 32 rfl)) (mvT hZ (tw hw 33 rfl)) (mvT hZ (tw hw 34 rfl)) (by decide) (backOf (W := 0) (rmWfU l Z a0 hw [] x171 ([c101, c102] : List Int32) t171 kb171 cs0 mz fm T171.heap n0 O175 S_CS c_CS E171 Fv171 Fc171 V171 (by simp) (by simp) hmz hpz hez S_AD S_HI S_LO hcs S_FM r_FM) hZ (tw hw 34 rfl) (tw hw 33 rfl) (by decide) (by decide)) (g := (mkF m 190 #[vI p1, vI p2, vI p3, vI p4, vI p5, vI c101, vI c102, vI c103, vI c104, vI 2, vR x171, vI 0, .unset] [(.ref x171)])) rfl (by rw [hml]; rfl) (argsL := [(.ref x171)]) (rest := []) (lenOf pd_5 rfl) rfl (by show 2 * 0 + _ ≤ _; exact Nat.le_of_eq rfl) (hb hby at_190) (fun _ _ => ⟨rfl, rfl, (by decide : 4 + 0 ≤ _), (by decide : 800 + 0 ≤ _)⟩)
     dsimp only [Pt.U, Pt.locs, Pt.cells, Pt.slots] at X174 l174 y174 z174 st174 hQ174
     subst l174 y174 z174
     obtain ⟨rfl, N174q, H174⟩ := hQ174
     have N174 := Fr.app N171 N174q
     obtain ⟨fs, hr, hrun, hended, eR, eW, eI, eS⟩ := Stand.leaveW (s := s) (vm₁ := s.vm) X174 hS0 (by rw [H174]; omega) (v := some (.int 1)) (fun h => by rw [Bd.returns] at h; cases h)
     refine ⟨_, _, pre173 _ ?_, hrun, hended, _, _, rfl, ?_, eR, eW, eI, eS.mono (by decide) (by decide)⟩
     ·skip
      show SS p e below T171 m 65 #[vI p1, vI p2, vI p3, vI p4, vI p5, vI c101, vI c102, vI c103, vI c104, vI 2, vR x171, .unset, .unset] [(.int c101)] _
      refine XS.ifYes X171.here hx rfl (pc0 := 65) (pc' := 105) rfl (hb hby at_65) rfl ((if0 _ _).trans (teq hc172).1) (by decide) (by decide) ?_
      refine XS.iconst X171.here hx rfl (hb hby at_105) ?_
      refine XS.istore X171.here hx rfl (hb hby at_106) rfl (l' := #[vI p1, vI p2, vI p3, vI p4, vI p5, vI c101, vI c102, vI c103, vI c104, vI 2, vR x171, vI 0, .unset]) rfl ?_
      refine XS.goto X171.here hx rfl (pc0 := 108) (pc' := 188) rfl (hb hby at_108) (by decide) (by decide) ?_
      refine XS.aload X171.here hx rfl (hb hby at_188) rfl rfl ?_
      show SS p e below T171 m 190 #[vI p1, vI p2, vI p3, vI p4, vI p5, vI c101, vI c102, vI c103, vI c104, vI 2, vR x171, vI 0, .unset] [(.ref x171)] _
      refine st174 _ ?_
      refine XS.iload X174.here hx rfl (hb hby at_193) rfl ?_
      refine XS.icmpNo X174.here hx rfl (hb hby at_195) rfl (teq (own_wf0 (show c101 ∈ ([c101, c102] : List Int32) by simp) hc172 hpz : (wfR (([c101, c102] : List Int32).length - prs ([c101, c102] : List Int32)) mz ([c101, c102] : List Int32).length) = (0 : Int32))).2 ?_
      refine XS.iconst X174.here hx rfl (hb hby at_198) ?_
      refine XS.goto X174.here hx rfl (pc0 := 199) (pc' := 203) rfl (hb hby at_199) (by decide) (by decide) ?_
      show SS p e below T174 m 203 #[vI p1, vI p2, vI p3, vI p4, vI p5, vI c101, vI c102, vI c103, vI c104, vI 2, vR x171, vI 0, .unset] [(.int 1)] _
      exact retN X174 hx (t := .boolean) Bd.returns (by simp) (hb hby at_203) hr
     ·show Q_rm0 Z p1 p2 p3 p4 p5 cs0 fm h0 n0 _ T174.heap _
      rw [H174]
      exact ⟨rfl, N174⟩
    ·skip
     have pre177 : ∀ t, SS p e below T171 m 76 #[vI p1, vI p2, vI p3, vI p4, vI p5, vI c101, vI c102, vI c103, vI c104, vI 2, vR x171, .unset, .unset] [(.int c102)] t → Steps p.tables e below (s₁.setTop (entryFrame m #[(.int p1), (.int p2), (.int p3), (.int p4), (.int p5)] maxLocals)) t := by
      intro t kt
      refine pre173 _ ?_
      show SS p e below T171 m 65 #[vI p1, vI p2, vI p3, vI p4, vI p5, vI c101, vI c102, vI c103, vI c104, vI 2, vR x171, .unset, .unset] [(.int c101)] _
      refine XS.ifNo X171.here hx rfl (hb hby at_65) rfl ((if0 _ _).trans (feq hc172).1) ?_
      refine XS.iload X171.here hx rfl (hb hby at_68) rfl ?_
      refine XS.iconst X171.here hx rfl (hb hby at_70) ?_
      refine XS.icmpNo X171.here hx rfl (hb hby at_71) rfl (flt (by decide : ¬ ((2 : Int32) < (2 : Int32)))).1 ?_
      refine XS.iload X171.here hx rfl (hb hby at_74) rfl ?_
      exact kt
     by_cases hc176 : c102 = (0 : Int32)
     ·skip
      obtain ⟨mz, hmz, hpz, hez⟩ := own_zero ([c101, c102] : List Int32)
      have O179 : Old Z n0 T171.heap := O0.keep K171 all0
      obtain ⟨_, _, ⟨T178, L178, k178, n178⟩, -, X178, ⟨Lc178, hQ178, l178, y178, z178⟩, st178⟩ := Jvm.LawKit.callS X171 hx (y := mN34) hown (mvT hZ (tw hw 31 rfl)) (mvT hZ (tw hw 32 rfl)) (mvT hZ (tw hw 33 rfl)) (mvT hZ (tw hw 34 rfl)) (by decide) (backOf (W := 0) (rmWfU l Z a0 hw [] x171 ([c101, c102] : List Int32) t171 kb171 cs0 mz fm T171.heap n0 O179 S_CS c_CS E171 Fv171 Fc171 V171 (by simp) (by simp) hmz hpz hez S_AD S_HI S_LO hcs S_FM r_FM) hZ (tw hw 34 rfl) (tw hw 33 rfl) (by decide) (by decide)) (g := (mkF m 190 #[vI p1, vI p2, vI p3, vI p4, vI p5, vI c101, vI c102, vI c103, vI c104, vI 2, vR x171, vI 0, .unset] [(.ref x171)])) rfl (by rw [hml]; rfl) (argsL := [(.ref x171)]) (rest := []) (lenOf pd_5 rfl) rfl (by show 2 * 0 + _ ≤ _; exact Nat.le_of_eq rfl) (hb hby at_190) (fun _ _ => ⟨rfl, rfl, (by decide : 4 + 0 ≤ _), (by decide : 800 + 0 ≤ _)⟩)
      dsimp only [Pt.U, Pt.locs, Pt.cells, Pt.slots] at X178 l178 y178 z178 st178 hQ178
      subst l178 y178 z178
      obtain ⟨rfl, N178q, H178⟩ := hQ178
      have N178 := Fr.app N171 N178q
      obtain ⟨fs, hr, hrun, hended, eR, eW, eI, eS⟩ := Stand.leaveW (s := s) (vm₁ := s.vm) X178 hS0 (by rw [H178]; omega) (v := some (.int 1)) (fun h => by rw [Bd.returns] at h; cases h)
      refine ⟨_, _, pre177 _ ?_, hrun, hended, _, _, rfl, ?_, eR, eW, eI, eS.mono (by decide) (by decide)⟩
      ·skip
       show SS p e below T171 m 76 #[vI p1, vI p2, vI p3, vI p4, vI p5, vI c101, vI c102, vI c103, vI c104, vI 2, vR x171, .unset, .unset] [(.int c102)] _
       refine XS.ifYes X171.here hx rfl (pc0 := 76) (pc' := 105) rfl (hb hby at_76) rfl ((if0 _ _).trans (teq hc176).1) (by decide) (by decide) ?_
       refine XS.iconst X171.here hx rfl (hb hby at_105) ?_
       refine XS.istore X171.here hx rfl (hb hby at_106) rfl (l' := #[vI p1, vI p2, vI p3, vI p4, vI p5, vI c101, vI c102, vI c103, vI c104, vI 2, vR x171, vI 0, .unset]) rfl ?_
       refine XS.goto X171.here hx rfl (pc0 := 108) (pc' := 188) rfl (hb hby at_108) (by decide) (by decide) ?_
       refine XS.aload X171.here hx rfl (hb hby at_188) rfl rfl ?_
       show SS p e below T171 m 190 #[vI p1, vI p2, vI p3, vI p4, vI p5, vI c101, vI c102, vI c103, vI c104, vI 2, vR x171, vI 0, .unset] [(.ref x171)] _
       refine st178 _ ?_
       refine XS.iload X178.here hx rfl (hb hby at_193) rfl ?_
       refine XS.icmpNo X178.here hx rfl (hb hby at_195) rfl (teq (own_wf0 (show c102 ∈ ([c101, c102] : List Int32) by simp) hc176 hpz : (wfR (([c101, c102] : List Int32).length - prs ([c101, c102] : List Int32)) mz ([c101, c102] : List Int32).length) = (0 : Int32))).2 ?_
       refine XS.iconst X178.here hx rfl (hb hby at_198) ?_
       refine XS.goto X178.here hx rfl (pc0 := 199) (pc' := 203) rfl (hb hby at_199) (by decide) (by decide) ?_
       show SS p e below T178 m 203 #[vI p1, vI p2, vI p3, vI p4, vI p5, vI c101, vI c102, vI c103, vI c104, vI 2, vR x171, vI 0, .unset] [(.int 1)] _
       exact retN X178 hx (t := .boolean) Bd.returns (by simp) (hb hby at_203) hr
      ·show Q_rm0 Z p1 p2 p3 p4 p5 cs0 fm h0 n0 _ T178.heap _
       rw [H178]
       exact ⟨rfl, N178⟩
     ·skip
      obtain ⟨mz, hmz, hpz, hez⟩ := own_zero ([c101, c102] : List Int32)
      have O181 : Old Z n0 T171.heap := O0.keep K171 all0
      obtain ⟨_, _, ⟨T180, L180, k180, n180⟩, -, X180, ⟨Lc180, hQ180, l180, y180, z180⟩, st180⟩ := Jvm.LawKit.callS X171 hx (y := mN34) hown (mvT hZ (tw hw 31 rfl)) (mvT hZ (tw hw 32 rfl)) (mvT hZ (tw hw 33 rfl)) (mvT hZ (tw hw 34 rfl)) (by decide) (backOf (W := 0) (rmWfU l Z a0 hw [] x171 ([c101, c102] : List Int32) t171 kb171 cs0 mz fm T171.heap n0 O181 S_CS c_CS E171 Fv171 Fc171 V171 (by simp) (by simp) hmz hpz hez S_AD S_HI S_LO hcs S_FM r_FM) hZ (tw hw 34 rfl) (tw hw 33 rfl) (by decide) (by decide)) (g := (mkF m 190 #[vI p1, vI p2, vI p3, vI p4, vI p5, vI c101, vI c102, vI c103, vI c104, vI 2, vR x171, vI 1, .unset] [(.ref x171)])) rfl (by rw [hml]; rfl) (argsL := [(.ref x171)]) (rest := []) (lenOf pd_5 rfl) rfl (by show 2 * 0 + _ ≤ _; exact Nat.le_of_eq rfl) (hb hby at_190) (fun _ _ => ⟨rfl, rfl, (by decide : 4 + 0 ≤ _), (by decide : 800 + 0 ≤ _)⟩)
      dsimp only [Pt.U, Pt.locs, Pt.cells, Pt.slots] at X180 l180 y180 z180 st180 hQ180
      subst l180 y180 z180
      obtain ⟨rfl, N180q, H180⟩ := hQ180
      have N180 := Fr.app N171 N180q
      obtain ⟨fs, hr, hrun, hended, eR, eW, eI, eS⟩ := Stand.leaveW (s := s) (vm₁ := s.vm) X180 hS0 (by rw [H180]; omega) (v := some (.int 1)) (fun h => by rw [Bd.returns] at h; cases h)
      refine ⟨_, _, pre177 _ ?_, hrun, hended, _, _, rfl, ?_, eR, eW, eI, eS.mono (by decide) (by decide)⟩
      ·skip
       show SS p e below T171 m 76 #[vI p1, vI p2, vI p3, vI p4, vI p5, vI c101, vI c102, vI c103, vI c104, vI 2, vR x171, .unset, .unset] [(.int c102)] _
       refine XS.ifNo X171.here hx rfl (hb hby at_76) rfl ((if0 _ _).trans (feq hc176).1) ?_
       refine XS.iload X171.here hx rfl (hb hby at_79) rfl ?_
       refine XS.iconst X171.here hx rfl (hb hby at_81) ?_
       refine XS.icmpYes X171.here hx rfl (pc0 := 82) (pc' := 90) rfl (hb hby at_82) rfl (tlt (by decide : (2 : Int32) < (3 : Int32))).1 (by decide) (by decide) ?_
       refine XS.iload X171.here hx rfl (hb hby at_90) rfl ?_
       refine XS.iconst X171.here hx rfl (hb hby at_92) ?_
       refine XS.icmpYes X171.here hx rfl (pc0 := 93) (pc' := 101) rfl (hb hby at_93) rfl (tlt (by decide : (2 : Int32) < (4 : Int32))).1 (by decide) (by decide) ?_
       refine XS.iconst X171.here hx rfl (hb hby at_101) ?_
       refine XS.goto X171.here hx rfl (pc0 := 102) (pc' := 106) rfl (hb hby at_102) (by decide) (by decide) ?_
       refine XS.istore X171.here hx rfl (hb hby at_106) rfl (l' := #[vI p1, vI p2, vI p3, vI p4, vI p5, vI c101, vI c102, vI c103, vI c104, vI 2, vR x171, vI 1, .unset]) rfl ?_
       show SS p e below T171 m 108 #[vI p1, vI p2, vI p3, vI p4, vI p5, vI c101, vI c102, vI c103, vI c104, vI 2, vR x171, vI 1, .unset] [] _
       refine XS.goto X171.here hx rfl (pc0 := 108) (pc' := 188) rfl (hb hby at_108) (by decide) (by decide) ?_
       refine XS.aload X171.here hx rfl (hb hby at_188) rfl rfl ?_
       show SS p e below T171 m 190 #[vI p1, vI p2, vI p3, vI p4, vI p5, vI c101, vI c102, vI c103, vI c104, vI 2, vR x171, vI 1, .unset] [(.ref x171)] _
       refine st180 _ ?_
       refine XS.iload X180.here hx rfl (hb hby at_193) rfl ?_
       refine XS.icmpNo X180.here hx rfl (hb hby at_195) rfl (teq (own_wf1 (show ∀ c ∈ ([c101, c102] : List Int32), ¬ c = 0 from (by intro c hc; simp only [List.mem_cons, List.not_mem_nil, or_false] at hc; rcases hc with rfl | rfl <;> assumption)) (Nat.le_trans (Nat.sub_le _ _) (by simp)) hez : (wfR (([c101, c102] : List Int32).length - prs ([c101, c102] : List Int32)) mz ([c101, c102] : List Int32).length) = (1 : Int32))).2 ?_
       refine XS.iconst X180.here hx rfl (hb hby at_198) ?_
       refine XS.goto X180.here hx rfl (pc0 := 199) (pc' := 203) rfl (hb hby at_199) (by decide) (by decide) ?_
       show SS p e below T180 m 203 #[vI p1, vI p2, vI p3, vI p4, vI p5, vI c101, vI c102, vI c103, vI c104, vI 2, vR x171, vI 1, .unset] [(.int 1)] _
       exact retN X180 hx (t := .boolean) Bd.returns (by simp) (hb hby at_203) hr
      ·show Q_rm0 Z p1 p2 p3 p4 p5 cs0 fm h0 n0 _ T180.heap _
       rw [H180]
       exact ⟨rfl, N180⟩
  ·skip
   have hr182 : (p1 &&& (7 : Int32)) = (3 : Int32) := hm
   have hcs : ∀ c ∈ ([c101, c102, c103] : List Int32), ¬ c < 0 ∧ ¬ (65535 : Int32) < c := (by intro c hc; simp only [List.mem_cons, List.not_mem_nil, or_false] at hc; rcases hc with rfl | rfl | rfl <;> assumption)
   have pre183 : ∀ t, SS p e below T104 m 39 #[vI p1, vI p2, vI p3, vI p4, vI p5, vI c101, vI c102, vI c103, vI c104, vI 3, .unset, .unset, .unset] [(.int 3)] t → Steps p.tables e below (s₁.setTop (entryFrame m #[(.int p1), (.int p2), (.int p3), (.int p4), (.int p5)] maxLocals)) t := by
    intro t kt
    refine pre137 _ ?_
    show SS p e below T104 m 37 #[vI p1, vI p2, vI p3, vI p4, vI p5, vI c101, vI c102, vI c103, vI c104, vI (p1 &&& (7 : Int32)), .unset, .unset, .unset] [] _
    rw [hr182]
    refine XS.iload X104.here hx rfl (hb hby at_37) rfl ?_
    exact kt
   rcases own_big ([c101, c102, c103] : List Int32) with hL | ⟨m1, hj, hpre, hend⟩
   ·skip
    obtain ⟨_, _, ⟨T184, L184, k184, n184⟩, -, X184, ⟨Lc184, hQ184, l184, y184, z184⟩, st184⟩ := Jvm.LawKit.callS X104 hx (y := mN37) hown (mvT hZ (tw hw 6 rfl)) (mvT hZ (tw hw 7 rfl)) (mvT hZ (tw hw 2 rfl)) (mvT hZ (tw hw 8 rfl)) (by decide) (backOf (W := 0) (rmShort3L l Z a0 hw [] (3 : Int32) c101 c102 c103 c104 cs0 h0 n0 O0 S_CS c_CS rfl r101 r102 r103 (own_rngL hcs hL)) hZ (tw hw 8 rfl) (tw hw 2 rfl) (by decide) (by decide)) (g := (mkF m 47 #[vI p1, vI p2, vI p3, vI p4, vI p5, vI c101, vI c102, vI c103, vI c104, vI 3, .unset, .unset, .unset] [(.int c104), (.int c103), (.int c102), (.int c101), (.int 3)])) rfl (by rw [hml]; rfl) (argsL := [(.int 3), (.int c101), (.int c102), (.int c103), (.int c104)]) (rest := []) (lenOf pd_1 rfl) rfl (by show 2 * 0 + _ ≤ _; exact Nat.le_of_eq rfl) (hb hby at_47) (fun _ _ => ⟨rfl, H104, (by decide : 0 + 4 ≤ _), (by decide : 0 + 800 ≤ _)⟩)
    dsimp only [Pt.U, Pt.locs, Pt.cells, Pt.slots] at X184 l184 y184 z184 st184 hQ184
    subst l184 y184 z184
    obtain ⟨x184, t184, kb184, rfl, N184q, K184, gx184, E184, Fv184, Fc184, tx184, V184⟩ := hQ184
    have ltx184 : @LT.lt Nat _ x184 T184.heap.size := E184.lt
    have ltt184 : @LT.lt Nat _ t184 T184.heap.size := V184.lt
    have sz1_K184 := K184.1
    have N184 := Fr.app N104 N184q
    have pre186 : ∀ t, SS p e below T184 m 65 #[vI p1, vI p2, vI p3, vI p4, vI p5, vI c101, vI c102, vI c103, vI c104, vI 3, vR x184, .unset, .unset] [(.int c101)] t → Steps p.tables e below (s₁.setTop (entryFrame m #[(.int p1), (.int p2), (.int p3), (.int p4), (.int p5)] maxLocals)) t := by
     intro t kt
     refine pre183 _ ?_
     show SS p e below T104 m 39 #[vI p1, vI p2, vI p3, vI p4, vI p5, vI c101, vI c102, vI c103, vI c104, vI 3, .unset, .unset, .unset] [(.int 3)] _
     refine XS.iload X104.here hx rfl (hb hby at_39) rfl ?_
     refine XS.iload X104.here hx rfl (hb hby at_41) rfl ?_
     refine XS.iload X104.here hx rfl (hb hby at_43) rfl ?_
     refine XS.iload X104.here hx rfl (hb hby at_45) rfl ?_
     show SS p e below T104 m 47 #[vI p1, vI p2, vI p3, vI p4, vI p5, vI c101, vI c102, vI c103, vI c104, vI 3, .unset, .unset, .unset] [(.int c104), (.int c103), (.int c102), (.int c101), (.int 3)] _
     refine st184 _ ?_
     refine XS.astore X184.here hx rfl (hb hby at_50) rfl rfl (l' := #[vI p1, vI p2, vI p3, vI p4, vI p5, vI c101, vI c102, vI c103, vI c104, vI 3, vR x184, .unset, .unset]) rfl ?_
     refine XS.iload X184.here hx rfl (hb hby at_52) rfl ?_
     refine XS.ifNo X184.here hx rfl (hb hby at_54) rfl ((if0 _ _).trans (tlt (by decide : (0 : Int32) < (3 : Int32))).2.2.2) ?_
     refine XS.iload X184.here hx rfl (hb hby at_57) rfl ?_
     refine XS.iconst X184.here hx rfl (hb hby at_59) ?_
     refine XS.icmpNo X184.here hx rfl (hb hby at_60) rfl (flt (by decide : ¬ ((3 : Int32) < (1 : Int32)))).1 ?_
     refine XS.iload X184.here hx rfl (hb hby at_63) rfl ?_
     exact kt
    by_cases hc185 : c101 = (0 : Int32)
    ·skip
     obtain ⟨mz, hmz, hpz, hez⟩ := own_zero (([c101, c102, c103] : List Int32).map (fun c => c.toInt8.toInt32))
     have O188 : Old Z n0 T184.heap := O0.keep K184 all0
     obtain ⟨_, _, ⟨T187, L187, k187, n187⟩, -, X187, ⟨Lc187, hQ187, l187, y187, z187⟩, st187⟩ := Jvm.LawKit.callS X184 hx (y := mN34) hown (mvT hZ (tw hw 31 rfl)) (mvT hZ (tw hw 32 rfl)) (mvT hZ (tw hw 33 rfl)) (mvT hZ (tw hw 34 rfl)) (by decide) (backOf (W := 0) (rmWfL l Z a0 hw [] x184 (([c101, c102, c103] : List Int32).map (fun c => c.toInt8.toInt32)) t184 kb184 cs0 mz T184.heap n0 O188 S_CS c_CS E184 Fv184 Fc184 V184 (by simp) (by simp) hmz hpz hez) hZ (tw hw 34 rfl) (tw hw 33 rfl) (by decide) (by decide)) (g := (mkF m 190 #[vI p1, vI p2, vI p3, vI p4, vI p5, vI c101, vI c102, vI c103, vI c104, vI 3, vR x184, vI 0, .unset] [(.ref x184)])) rfl (by rw [hml]; rfl) (argsL := [(.ref x184)]) (rest := []) (lenOf pd_5 rfl) rfl (by show 2 * 0 + _ ≤ _; exact Nat.le_of_eq rfl) (hb hby at_190) (fun _ _ => ⟨rfl, rfl, (by decide : 4 + 0 ≤ _), (by decide : 800 + 0 ≤ _)⟩)
     dsimp only [Pt.U, Pt.locs, Pt.cells, Pt.slots] at X187 l187 y187 z187 st187 hQ187
     subst l187 y187 z187
     obtain ⟨rfl, N187q, H187⟩ := hQ187
     have N187 := Fr.app N184 N187q
     obtain ⟨fs, hr, hrun, hended, eR, eW, eI, eS⟩ := Stand.leaveW (s := s) (vm₁ := s.vm) X187 hS0 (by rw [H187]; omega) (v := some (.int 1)) (fun h => by rw [Bd.returns] at h; cases h)
     refine ⟨_, _, pre186 _ ?_, hrun, hended, _, _, rfl, ?_, eR, eW, eI, eS.mono (by decide) (by decide)⟩
     ·skip
      show SS p e below T184 m 65 #[vI p1, vI p2, vI p3, vI p4, vI p5, vI c101, vI c102, vI c103, vI c104, vI 3, vR x184, .unset, .unset] [(.int c101)] _
      refine XS.ifYes X184.here hx rfl (pc0 := 65) (pc' := 105) rfl (hb hby at_65) rfl ((if0 _ _).trans (teq hc185).1) (by decide) (by decide) ?_
      refine XS.iconst X184.here hx rfl (hb hby at_105) ?_
      refine XS.istore X184.here hx rfl (hb hby at_106) rfl (l' := #[vI p1, vI p2, vI p3, vI p4, vI p5, vI c101, vI c102, vI c103, vI c104, vI 3, vR x184, vI 0, .unset]) rfl ?_
      refine XS.goto X184.here hx rfl (pc0 := 108) (pc' := 188) rfl (hb hby at_108) (by decide) (by decide) ?_
      refine XS.aload X184.here hx rfl (hb hby at_188) rfl rfl ?_
      show SS p e below T184 m 190 #[vI p1, vI p2, vI p3, vI p4, vI p5, vI c101, vI c102, vI c103, vI c104, vI 3, vR x184, vI 0, .unset] [(.ref x184)] _
      refine st187 _ ?_
      refine XS.iload X187.here hx rfl (hb hby at_193) rfl ?_
      refine XS.icmpNo X187.here hx rfl (hb hby at_195) rfl (teq (own_wf0 (own_zL (show c101 ∈ ([c101, c102, c103] : List Int32) by simp) hc185) rfl hpz : (wfR (([c101, c102, c103] : List Int32).map (fun c => c.toInt8.toInt32)).length mz (([c101, c102, c103] : List Int32).map (fun c => c.toInt8.toInt32)).length) = (0 : Int32))).2 ?_
      refine XS.iconst X187.here hx rfl (hb hby at_198) ?_
      refine XS.goto X187.here hx rfl (pc0 := 199) (pc' := 203) rfl (hb hby at_199) (by decide) (by decide) ?_
      show SS p e below T187 m 203 #[vI p1, vI p2, vI p3, vI p4, vI p5, vI c101, vI c102, vI c103, vI c104, vI 3, vR x184, vI 0, .unset] [(.int 1)] _
      exact retN X187 hx (t := .boolean) Bd.returns (by simp) (hb hby at_203) hr
     ·show Q_rm0 Z p1 p2 p3 p4 p5 cs0 fm h0 n0 _ T187.heap _
      rw [H187]
      exact ⟨rfl, N187⟩
    ·skip
     have pre190 : ∀ t, SS p e below T184 m 76 #[vI p1, vI p2, vI p3, vI p4, vI p5, vI c101, vI c102, vI c103, vI c104, vI 3, vR x184, .unset, .unset] [(.int c102)] t → Steps p.tables e below (s₁.setTop (entryFrame m #[(.int p1), (.int p2), (.int p3), (.int p4), (.int p5)] maxLocals)) t := by
      intro t kt
      refine pre186 _ ?_
      show SS p e below T184 m 65 #[vI p1, vI p2, vI p3, vI p4, vI p5, vI c101, vI c102, vI c103, vI c104, vI 3, vR x184, .unset, .unset] [(.int c101)] _
      refine XS.ifNo X184.here hx rfl (hb hby at_65) rfl ((if0 _ _).trans (feq hc185).1) ?_
      refine XS.iload X184.here hx rfl (hb hby at_68) rfl ?_
      refine XS.iconst X184.here hx rfl (hb hby at_70) ?_
      refine XS.icmpNo X184.here hx rfl (hb hby at_71) rfl (flt (by decide : ¬ ((3 : Int32) < (2 : Int32)))).1 ?_
      refine XS.iload X184.here hx rfl (hb hby at_74) rfl ?_
      exact kt
     by_cases hc189 : c102 = (0 : Int32)
     ·skip
      obtain ⟨mz, hmz, hpz, hez⟩ := own_zero (([c101, c102, c103] : List Int32).map (fun c => c.toInt8.toInt32))
      have O192 : Old Z n0 T184.heap := O0.keep K184 all0
      obtain ⟨_, _, ⟨T191, L191, k191, n191⟩, -, X191, ⟨Lc191, hQ191, l191, y191, z191⟩, st191⟩ := Jvm.LawKit.callS X184 hx (y := mN34) hown (mvT hZ (tw hw 31 rfl)) (mvT hZ (tw hw 32 rfl)) (mvT hZ (tw hw 33 rfl)) (mvT hZ (tw hw 34 rfl)) (by decide) (backOf (W := 0) (rmWfL l Z a0 hw [] x184 (([c101, c102, c103] : List Int32).map (fun c => c.toInt8.toInt32)) t184 kb184 cs0 mz T184.heap n0 O192 S_CS c_CS E184 Fv184 Fc184 V184 (by simp) (by simp) hmz hpz hez) hZ (tw hw 34 rfl) (tw hw 33 rfl) (by decide) (by decide)) (g := (mkF m 190 #[vI p1, vI p2, vI p3, vI p4, vI p5, vI c101, vI c102, vI c103, vI c104, vI 3, vR x184, vI 0, .unset] [(.ref x184)])) rfl (by rw [hml]; rfl) (argsL := [(.ref x184)]) (rest := []) (lenOf pd_5 rfl) rfl (by show 2 * 0 + _ ≤ _; exact Nat.le_of_eq rfl) (hb hby at_190) (fun _ _ => ⟨rfl, rfl, (by decide : 4 + 0 ≤ _), (by decide : 800 + 0 ≤ _)⟩)
      dsimp only [Pt.U, Pt.locs, Pt.cells, Pt.slots] at X191 l191 y191 z191 st191 hQ191
      subst l191 y191 z191
      obtain ⟨rfl, N191q, H191⟩ := hQ191
      have N191 := Fr.app N184 N191q
      obtain ⟨fs, hr, hrun, hended, eR, eW, eI, eS⟩ := Stand.leaveW (s := s) (vm₁ := s.vm) X191 hS0 (by rw [H191]; omega) (v := some (.int 1)) (fun h => by rw [Bd.returns] at h; cases h)
      refine ⟨_, _, pre190 _ ?_, hrun, hended, _, _, rfl, ?_, eR, eW, eI, eS.mono (by decide) (by decide)⟩
      ·skip
       show SS p e below T184 m 76 #[vI p1, vI p2, vI p3, vI p4, vI p5, vI c101, vI c102, vI c103, vI c104, vI 3, vR x184, .unset, .unset] [(.int c102)] _
       refine XS.ifYes X184.here hx rfl (pc0 := 76) (pc' := 105) rfl (hb hby at_76) rfl ((if0 _ _).trans (teq hc189).1) (by decide) (by decide) ?_
       refine XS.iconst X184.here hx rfl (hb hby at_105) ?_
       refine XS.istore X184.here hx rfl (hb hby at_106) rfl (l' := #[vI p1, vI p2, vI p3, vI p4, vI p5, vI c101, vI c102, vI c103, vI c104, vI 3, vR x184, vI 0, .unset]) rfl ?_
       refine XS.goto X184.here hx rfl (pc0 := 108) (pc' := 188) rfl (hb hby at_108) (by decide) (by decide) ?_
       refine XS.aload X184.here hx rfl (hb hby at_188) rfl rfl ?_
       show SS p e below T184 m 190 #[vI p1, vI p2, vI p3, vI p4, vI p5, vI c101, vI c102, vI c103, vI c104, vI 3, vR x184, vI 0, .unset] [(.ref x184)] _
       refine st191 _ ?_
       refine XS.iload X191.here hx rfl (hb hby at_193) rfl ?_
       refine XS.icmpNo X191.here hx rfl (hb hby at_195) rfl (teq (own_wf0 (own_zL (show c102 ∈ ([c101, c102, c103] : List Int32) by simp) hc189) rfl hpz : (wfR (([c101, c102, c103] : List Int32).map (fun c => c.toInt8.toInt32)).length mz (([c101, c102, c103] : List Int32).map (fun c => c.toInt8.toInt32)).length) = (0 : Int32))).2 ?_
       refine XS.iconst X191.here hx rfl (hb hby at_198) ?_
       refine XS.goto X191.here hx rfl (pc0 := 199) (pc' := 203) rfl (hb hby at_199) (by decide) (by decide) ?_
       show SS p e below T191 m 203 #[vI p1, vI p2, vI p3, vI p4, vI p5, vI c101, vI c102, vI c103, vI c104, vI 3, vR x184, vI 0, .unset] [(.int 1)] _
       exact retN X191 hx (t := .boolean) Bd.returns (by simp) (hb hby at_203) hr
      ·show Q_rm0 Z p1 p2 p3 p4 p5 cs0 fm h0 n0 _ T191.heap _
       rw [H191]
       exact ⟨rfl, N191⟩
     ·skip
      have pre194 : ∀ t, SS p e below T184 m 87 #[vI p1, vI p2, vI p3, vI p4, vI p5, vI c101, vI c102, vI c103, vI c104, vI 3, vR x184, .unset, .unset] [(.int c103)] t → Steps p.tables e below (s₁.setTop (entryFrame m #[(.int p1), (.int p2), (.int p3), (.int p4), (.int p5)] maxLocals)) t := by
       intro t kt
       refine pre190 _ ?_
       show SS p e below T184 m 76 #[vI p1, vI p2, vI p3, vI p4, vI p5, vI c101, vI c102, vI c103, vI c104, vI 3, vR x184, .unset, .unset] [(.int c102)] _
       refine XS.ifNo X184.here hx rfl (hb hby at_76) rfl ((if0 _ _).trans (feq hc189).1) ?_
       refine XS.iload X184.here hx rfl (hb hby at_79) rfl ?_
       refine XS.iconst X184.here hx rfl (hb hby at_81) ?_
       refine XS.icmpNo X184.here hx rfl (hb hby at_82) rfl (flt (by decide : ¬ ((3 : Int32) < (3 : Int32)))).1 ?_
       refine XS.iload X184.here hx rfl (hb hby at_85) rfl ?_
       exact kt
      by_cases hc193 : c103 = (0 : Int32)
      ·skip
       obtain ⟨mz, hmz, hpz, hez⟩ := own_zero (([c101, c102, c103] : List Int32).map (fun c => c.toInt8.toInt32))
       have O196 : Old Z n0 T184.heap := O0.keep K184 all0
       obtain ⟨_, _, ⟨T195, L195, k195, n195⟩, -, X195, ⟨Lc195, hQ195, l195, y195, z195⟩, st195⟩ := Jvm.LawKit.callS X184 hx (y := mN34) hown (mvT hZ (tw hw 31 rfl)) (mvT hZ (tw hw 32 rfl)) (mvT hZ (tw hw 33 rfl)) (mvT hZ (tw hw 34 rfl)) (by decide) (backOf (W := 0) (rmWfL l Z a0 hw [] x184 (([c101, c102, c103] : List Int32).map (fun c => c.toInt8.toInt32)) t184 kb184 cs0 mz T184.heap n0 O196 S_CS c_CS E184 Fv184 Fc184 V184 (by simp) (by simp) hmz hpz hez) hZ (tw hw 34 rfl) (tw hw 33 rfl) (by decide) (by decide)) (g := (mkF m 190 #[vI p1, vI p2, vI p3, vI p4, vI p5, vI c101, vI c102, vI c103, vI c104, vI 3, vR x184, vI 0, .unset] [(.ref x184)])) rfl (by rw [hml]; rfl) (argsL := [(.ref x184)]) (rest := []) (lenOf pd_5 rfl) rfl (by show 2 * 0 + _ ≤ _; exact Nat.le_of_eq rfl) (hb hby at_190) (fun _ _ => ⟨rfl, rfl, (by decide : 4 + 0 ≤ _), (by decide : 800 + 0 ≤ _)⟩)
       dsimp only [Pt.U, Pt.locs, Pt.cells, Pt.slots] at X195 l195 y195 z195 st195 hQ195
       subst l195 y195 z195
       obtain ⟨rfl, N195q, H195⟩ := hQ195
       have N195 := Fr.app N184 N195q
       obtain ⟨fs, hr, hrun, hended, eR, eW, eI, eS⟩ := Stand.leaveW (s := s) (vm₁ := s.vm) X195 hS0 (by rw [H195]; omega) (v := some (.int 1)) (fun h => by rw [Bd.returns] at h; cases h)
       refine ⟨_, _, pre194 _ ?_, hrun, hended, _, _, rfl, ?_, eR, eW, eI, eS.mono (by decide) (by decide)⟩
       ·skip
        show SS p e below T184 m 87 #[vI p1, vI p2, vI p3, vI p4, vI p5, vI c101, vI c102, vI c103, vI c104, vI 3, vR x184, .unset, .unset] [(.int c103)] _
        refine XS.ifYes X184.here hx rfl (pc0 := 87) (pc' := 105) rfl (hb hby at_87) rfl ((if0 _ _).trans (teq hc193).1) (by decide) (by decide) ?_
        refine XS.iconst X184.here hx rfl (hb hby at_105) ?_
        refine XS.istore X184.here hx rfl (hb hby at_106) rfl (l' := #[vI p1, vI p2, vI p3, vI p4, vI p5, vI c101, vI c102, vI c103, vI c104, vI 3, vR x184, vI 0, .unset]) rfl ?_
        refine XS.goto X184.here hx rfl (pc0 := 108) (pc' := 188) rfl (hb hby at_108) (by decide) (by decide) ?_
        refine XS.aload X184.here hx rfl (hb hby at_188) rfl rfl ?_
        show SS p e below T184 m 190 #[vI p1, vI p2, vI p3, vI p4, vI p5, vI c101, vI c102, vI c103, vI c104, vI 3, vR x184, vI 0, .unset] [(.ref x184)] _
        refine st195 _ ?_
        refine XS.iload X195.here hx rfl (hb hby at_193) rfl ?_
        refine XS.icmpNo X195.here hx rfl (hb hby at_195) rfl (teq (own_wf0 (own_zL (show c103 ∈ ([c101, c102, c103] : List Int32) by simp) hc193) rfl hpz : (wfR (([c101, c102, c103] : List Int32).map (fun c => c.toInt8.toInt32)).length mz (([c101, c102, c103] : List Int32).map (fun c => c.toInt8.toInt32)).length) = (0 : Int32))).2 ?_
        refine XS.iconst X195.here hx rfl (hb hby at_198) ?_
        refine XS.goto X195.here hx rfl (pc0 := 199) (pc' := 203) rfl (hb hby at_199) (by decide) (by decide) ?_
        show SS p e below T195 m 203 #[vI p1, vI p2, vI p3, vI p4, vI p5, vI c101, vI c102, vI c103, vI c104, vI 3, vR x184, vI 0, .unset] [(.int 1)] _
        exact retN X195 hx (t := .boolean) Bd.returns (by simp) (hb hby at_203) hr
       ·show Q_rm0 Z p1 p2 p3 p4 p5 cs0 fm h0 n0 _ T195.heap _
        rw [H195]
        exact ⟨rfl, N195⟩
      ·skip
       obtain ⟨mz, hmz, hpz, hez⟩ := own_zero (([c101, c102, c103] : List Int32).map (fun c => c.toInt8.toInt32))
       have O198 : Old Z n0 T184.heap := O0.keep K184 all0
       obtain ⟨_, _, ⟨T197, L197, k197, n197⟩, -, X197, ⟨Lc197, hQ197, l197, y197, z197⟩, st197⟩ := Jvm.LawKit.callS X184 hx (y := mN34) hown (mvT hZ (tw hw 31 rfl)) (mvT hZ (tw hw 32 rfl)) (mvT hZ (tw hw 33 rfl)) (mvT hZ (tw hw 34 rfl)) (by decide) (backOf (W := 0) (rmWfL l Z a0 hw [] x184 (([c101, c102, c103] : List Int32).map (fun c => c.toInt8.toInt32)) t184 kb184 cs0 mz T184.heap n0 O198 S_CS c_CS E184 Fv184 Fc184 V184 (by simp) (by simp) hmz hpz hez) hZ (tw hw 34 rfl) (tw hw 33 rfl) (by decide) (by decide)) (g := (mkF m 190 #[vI p1, vI p2, vI p3, vI p4, vI p5, vI c101, vI c102, vI c103, vI c104, vI 3, vR x184, vI 1, .unset] [(.ref x184)])) rfl (by rw [hml]; rfl) (argsL := [(.ref x184)]) (rest := []) (lenOf pd_5 rfl) rfl (by show 2 * 0 + _ ≤ _; exact Nat.le_of_eq rfl) (hb hby at_190) (fun _ _ => ⟨rfl, rfl, (by decide : 4 + 0 ≤ _), (by decide : 800 + 0 ≤ _)⟩)
       dsimp only [Pt.U, Pt.locs, Pt.cells, Pt.slots] at X197 l197 y197 z197 st197 hQ197
       subst l197 y197 z197
       obtain ⟨rfl, N197q, H197⟩ := hQ197
       have N197 := Fr.app N184 N197q
       obtain ⟨fs, hr, hrun, hended, eR, eW, eI, eS⟩ := Stand.leaveW (s := s) (vm₁ := s.vm) X197 hS0 (by rw [H197]; omega) (v := some (.int 1)) (fun h => by rw [Bd.returns] at h; cases h)
       refine ⟨_, _, pre194 _ ?_, hrun, hended, _, _, rfl, ?_, eR, eW, eI, eS.mono (by decide) (by decide)⟩
       ·skip
        show SS p e below T184 m 87 #[vI p1, vI p2, vI p3, vI p4, vI p5, vI c101, vI c102, vI c103, vI c104, vI 3, vR x184, .unset, .unset] [(.int c103)] _
        refine XS.ifNo X184.here hx rfl (hb hby at_87) rfl ((if0 _ _).trans (feq hc193).1) ?_
        refine XS.iload X184.here hx rfl (hb hby at_90) rfl ?_
        refine XS.iconst X184.here hx rfl (hb hby at_92) ?_
        refine XS.icmpYes X184.here hx rfl (pc0 := 93) (pc' := 101) rfl (hb hby at_93) rfl (tlt (by decide : (3 : Int32) < (4 : Int32))).1 (by decide) (by decide) ?_
        refine XS.iconst X184.here hx rfl (hb hby at_101) ?_
        refine XS.goto X184.here hx rfl (pc0 := 102) (pc' := 106) rfl (hb hby at_102) (by decide) (by decide) ?_
        refine XS.istore X184.here hx rfl (hb hby at_106) rfl (l' := #[vI p1, vI p2, vI p3, vI p4, vI p5, vI c101, vI c102, vI c103, vI c104, vI 3, vR x184, vI 1, .unset]) rfl ?_
        refine XS.goto X184.here hx rfl (pc0 := 108) (pc' := 188) rfl (hb hby at_108) (by decide) (by decide) ?_
        refine XS.aload X184.here hx rfl (hb hby at_188) rfl rfl ?_
        show SS p e below T184 m 190 #[vI p1, vI p2, vI p3, vI p4, vI p5, vI c101, vI c102, vI c103, vI c104, vI 3, vR x184, vI 1, .unset] [(.ref x184)] _
        refine st197 _ ?_
        refine XS.iload X197.here hx rfl (hb hby at_193) rfl ?_
        refine XS.icmpNo X197.here hx rfl (hb hby at_195) rfl (teq (own_wf1 (own_nzL (own_rngL hcs hL) (show ∀ c ∈ ([c101, c102, c103] : List Int32), ¬ c = 0 from (by intro c hc; simp only [List.mem_cons, List.not_mem_nil, or_false] at hc; rcases hc with rfl | rfl | rfl <;> assumption))) (by simp) hez : (wfR (([c101, c102, c103] : List Int32).map (fun c => c.toInt8.toInt32)).length mz (([c101, c102, c103] : List Int32).map (fun c => c.toInt8.toInt32)).length) = (1 : Int32))).2 ?_
        refine XS.iconst X197.here hx rfl (hb hby at_198) ?_
        refine XS.goto X197.here hx rfl (pc0 := 199) (pc' := 203) rfl (hb hby at_199) (by decide) (by decide) ?_
        show SS p e below T197 m 203 #[vI p1, vI p2, vI p3, vI p4, vI p5, vI c101, vI c102, vI c103, vI c104, vI 3, vR x184, vI 1, .unset] [(.int 1)] _
        exact retN X197 hx (t := .boolean) Bd.returns (by simp) (hb hby at_203) hr
       ·show Q_rm0 Z p1 p2 p3 p4 p5 cs0 fm h0 n0 _ T197.heap _
        rw [H197]
        exact ⟨rfl, N197⟩
   ·skip
    obtain ⟨_, _, ⟨T199, L199, k199, n199⟩, -, X199, ⟨Lc199, hQ199, l199, y199, z199⟩, st199⟩ := Jvm.LawKit.callS X104 hx (y := mN37) hown (mvT hZ (tw hw 6 rfl)) (mvT hZ (tw hw 7 rfl)) (mvT hZ (tw hw 2 rfl)) (mvT hZ (tw hw 8 rfl)) (by decide) (backOf (W := 0) (rmShort3U l Z a0 hw [] (3 : Int32) c101 c102 c103 c104 cs0 m1 h0 n0 O0 S_CS c_CS S_AD S_HI S_LO rfl r101 r102 r103 hcs hj hpre hend) hZ (tw hw 8 rfl) (tw hw 2 rfl) (by decide) (by decide)) (g := (mkF m 47 #[vI p1, vI p2, vI p3, vI p4, vI p5, vI c101, vI c102, vI c103, vI c104, vI 3, .unset, .unset, .unset] [(.int c104), (.int c103), (.int c102), (.int c101), (.int 3)])) rfl (by rw [hml]; rfl) (argsL := [(.int 3), (.int c101), (.int c102), (.int c103), (.int c104)]) (rest := []) (lenOf pd_1 rfl) rfl (by show 2 * 0 + _ ≤ _; exact Nat.le_of_eq rfl) (hb hby at_47) (fun _ _ => ⟨rfl, H104, (by decide : 0 + 4 ≤ _), (by decide : 0 + 800 ≤ _)⟩)
    dsimp only [Pt.U, Pt.locs, Pt.cells, Pt.slots] at X199 l199 y199 z199 st199 hQ199
    subst l199 y199 z199
    obtain ⟨x199, t199, kb199, rfl, N199q, K199, gx199, E199, Fv199, Fc199, tx199, V199⟩ := hQ199
    have ltx199 : @LT.lt Nat _ x199 T199.heap.size := E199.lt
    have ltt199 : @LT.lt Nat _ t199 T199.heap.size := V199.lt
    have sz1_K199 := K199.1
    have N199 := Fr.app N104 N199q
    have pre201 : ∀ t, SS p e below T199 m 65 #[vI p1, vI p2, vI p3, vI p4, vI p5, vI c101, vI c102, vI c103, vI c104, vI 3, vR x199, .unset, .unset] [(.int c101)] t → Steps p.tables e below (s₁.setTop (entryFrame m #[(.int p1), (.int p2), (.int p3), (.int p4), (.int p5)] maxLocals)) t := by
     intro t kt
     refine pre183 _ ?_
     show SS p e below T104 m 39 #[vI p1, vI p2, vI p3, vI p4, vI p5, vI c101, vI c102, vI c103, vI c104, vI 3, .unset, .unset, .unset] [(.int 3)] _
     refine XS.iload X104.here hx rfl (hb hby at_39) rfl ?_
     refine XS.iload X104.here hx rfl (hb hby at_41) rfl ?_
     refine XS.iload X104.here hx rfl (hb hby at_43) rfl ?_
     refine XS.iload X104.here hx rfl (hb hby at_45) rfl ?_
     show SS p e below T104 m 47 #[vI p1, vI p2, vI p3, vI p4, vI p5, vI c101, vI c102, vI c103, vI c104, vI 3, .unset, .unset, .unset] [(.int c104), (.int c103), (.int c102), (.int c101), (.int 3)] _
     refine st199 _ ?_
     refine XS.astore X199.here hx rfl (hb hby at_50) rfl rfl (l' := #[vI p1, vI p2, vI p3, vI p4, vI p5, vI c101, vI c102, vI c103, vI c104, vI 3, vR x199, .unset, .unset]) rfl ?_
     refine XS.iload X199.here hx rfl (hb hby at_52) rfl ?_
     refine XS.ifNo X199.here hx rfl (hb hby at_54) rfl ((if0 _ _).trans (tlt (by decide : (0 : Int32) < (3 : Int32))).2.2.2) ?_
     refine XS.iload X199.here hx rfl (hb hby at_57) rfl ?_
     refine XS.iconst X199.here hx rfl (hb hby at_59) ?_
     refine XS.icmpNo X199.here hx rfl (hb hby at_60) rfl (flt (by decide : ¬ ((3 : Int32) < (1 : Int32)))).1 ?_
     refine XS.iload X199.here hx rfl (hb hby at_63) rfl ?_
     exact kt
    by_cases hc200 : c101 = (0 : Int32)
    ·skip
     obtain ⟨mz, hmz, hpz, hez⟩ := own_zero ([c101, c102, c103] : List Int32)
     have O203 : Old Z n0 T199.heap := O0.keep K199 all0
     obtain ⟨_, _, ⟨T202, L202, k202, n202⟩, -, X202, ⟨Lc202, hQ202, l202, y202, z202⟩, st202⟩ := Jvm.LawKit.callS X199 hx (y := mN34) hown (mvT hZ (tw hw 31 rfl)) (mvT hZ (tw hw 32 rfl)) (mvT hZ (tw hw 33 rfl)) (mvT hZ (tw hw 34 rfl)) (by decide) (backOf (W := 0) (rmWfU l Z a0 hw [] x199 ([c101, c102, c103] : List Int32) t199 kb199 cs0 mz fm T199.heap n0 O203 S_CS c_CS E199 Fv199 Fc199 V199 (by simp) (by simp) hmz hpz hez S_AD S_HI S_LO hcs S_FM r_FM) hZ (tw hw 34 rfl) (tw hw 33 rfl) (by decide) (by decide)) (g := (mkF m 190 #[vI p1, vI p2, vI p3, vI p4, vI p5, vI c101, vI c102, vI c103, vI c104, vI 3, vR x199, vI 0, .unset] [(.ref x199)])) rfl (by rw [hml]; rfl) (argsL := [(.ref x199)]) (rest := []) (lenOf pd_5 rfl) rfl (by show 2 * 0 + _ ≤ _; exact Nat.le_of_eq rfl) (hb hby at_190) (fun _ _ => ⟨rfl, rfl, (by decide : 4 + 0 ≤ _), (by decide : 800 + 0 ≤ _)⟩)
     dsimp only [Pt.U, Pt.locs, Pt.cells, Pt.slots] at X202 l202 y202 z202 st202 hQ202
     subst l202 y202 z202
     obtain ⟨rfl, N202q, H202⟩ := hQ202
     have N202 := Fr.app N199 N202q
     obtain ⟨fs, hr, hrun, hended, eR, eW, eI, eS⟩ := Stand.leaveW (s := s) (vm₁ := s.vm) X202 hS0 (by rw [H202]; omega) (v := some (.int 1)) (fun h => by rw [Bd.returns] at h; cases h)
     refine ⟨_, _, pre201 _ ?_, hrun, hended, _, _, rfl, ?_, eR, eW, eI, eS.mono (by decide) (by decide)⟩
     ·skip
      show SS p e below T199 m 65 #[vI p1, vI p2, vI p3, vI p4, vI p5, vI c101, vI c102, vI c103, vI c104, vI 3, vR x199, .unset, .unset] [(.int c101)] _
      refine XS.ifYes X199.here hx rfl (pc0 := 65) (pc' := 105) rfl (hb hby at_65) rfl ((if0 _ _).trans (teq hc200).1) (by decide) (by decide) ?_
      refine XS.iconst X199.here hx rfl (hb hby at_105) ?_
      refine XS.istore X199.here hx rfl (hb hby at_106) rfl (l' := #[vI p1, vI p2, vI p3, vI p4, vI p5, vI c101, vI c102, vI c103, vI c104, vI 3, vR x199, vI 0, .unset]) rfl ?_
      refine XS.goto X199.here hx rfl (pc0 := 108) (pc' := 188) rfl (hb hby at_108) (by decide) (by decide) ?_
      refine XS.aload X199.here hx rfl (hb hby at_188) rfl rfl ?_
      show SS p e below T199 m 190 #[vI p1, vI p2, vI p3, vI p4, vI p5, vI c101, vI c102, vI c103, vI c104, vI 3, vR x199, vI 0, .unset] [(.ref x199)] _
      refine st202 _ ?_
      refine XS.iload X202.here hx rfl (hb hby at_193) rfl ?_
      refine XS.icmpNo X202.here hx rfl (hb hby at_195) rfl (teq (own_wf0 (show c101 ∈ ([c101, c102, c103] : List Int32) by simp) hc200 hpz : (wfR (([c101, c102, c103] : List Int32).length - prs ([c101, c102, c103] : List Int32)) mz ([c101, c102, c103] : List Int32).length) = (0 : Int32))).2 ?_
      refine XS.iconst X202.here hx rfl (hb hby at_198) ?_
      refine XS.goto X202.here hx rfl (pc0 := 199) (pc' := 203) rfl (hb hby at_199) (by decide) (by decide) ?_
      show SS p e below T202 m 203 #[vI p1, vI p2, vI p3, vI p4, vI p5, vI c101, vI c102, vI c103, vI c104, vI 3, vR x199, vI 0, .unset] [(.int 1)] _
      exact retN X202 hx (t := .boolean) Bd.returns (by simp) (hb hby at_203) hr
     ·show Q_rm0 Z p1 p2 p3 p4 p5 cs0 fm h0 n0 _ T202.heap _
      rw [H202]
      exact ⟨rfl, N202⟩
    ·skip
     have pre205 : ∀ t, SS p e below T199 m 76 #[vI p1, vI p2, vI p3, vI p4, vI p5, vI c101, vI c102, vI c103, vI c104, vI 3, vR x199, .unset, .unset] [(.int c102)] t → Steps p.tables e below (s₁.setTop (entryFrame m #[(.int p1), (.int p2), (.int p3), (.int p4), (.int p5)] maxLocals)) t := by
      intro t kt
      refine pre201 _ ?_
      show SS p e below T199 m 65 #[vI p1, vI p2, vI p3, vI p4, vI p5, vI c101, vI c102, vI c103, vI c104, vI 3, vR x199, .unset, .unset] [(.int c101)] _
      refine XS.ifNo X199.here hx rfl (hb hby at_65) rfl ((if0 _ _).trans (feq hc200).1) ?_
      refine XS.iload X199.here hx rfl (hb hby at_68) rfl ?_
      refine XS.iconst X199.here hx rfl (hb hby at_70) ?_
      refine XS.icmpNo X199.here hx rfl (hb hby at_71) rfl (flt (by decide : ¬ ((3 : Int32) < (2 : Int32)))).1 ?_
      refine XS.iload X199.here hx rfl (hb hby at_74) rfl ?_
      exact kt
     by_cases hc204 : c102 = (0 : Int32)
     ·skip
      obtain ⟨mz, hmz, hpz, hez⟩ := own_zero ([c101, c102, c103] : List Int32)
      have O207 : Old Z n0 T199.heap := O0.keep K199 all0
      obtain ⟨_, _, ⟨T206, L206, k206, n206⟩, -, X206, ⟨Lc206, hQ206, l206, y206, z206⟩, st206⟩ := Jvm.LawKit.callS X199 hx (y := mN34) hown (mvT hZ (tw hw 31 rfl)) (mvT hZ (tw hw 32 rfl)) (mvT hZ (tw hw 33 rfl)) (mvT hZ (tw hw 34 rfl)) (by decide) (backOf (W := 0) (rmWfU l Z a0 hw [] x199 ([c101, c102, c103] : List Int32) t199 kb199 cs0 mz fm T199.heap n0 O207 S_CS c_CS E199 Fv199 Fc199 V199 (by simp) (by simp) hmz hpz hez S_AD S_HI S_LO hcs S_FM r_FM) hZ (tw hw 34 rfl) (tw hw 33 rfl) (by decide) (by decide)) (g := (mkF m 190 #[vI p1, vI p2, vI p3, vI p4, vI p5, vI c101, vI c102, vI c103, vI c104, vI 3, vR x199, vI 0, .unset] [(.ref x199)])) rfl (by rw [hml]; rfl) (argsL := [(.ref x199)]) (rest := []) (lenOf pd_5 rfl) rfl (by show 2 * 0 + _ ≤ _; exact Nat.le_of_eq rfl) (hb hby at_190) (fun _ _ => ⟨rfl, rfl, (by decide : 4 + 0 ≤ _), (by decide : 800 + 0 ≤ _)⟩)
      dsimp only [Pt.U, Pt.locs, Pt.cells, Pt.slots] at X206 l206 y206 z206 st206 hQ206
      subst l206 y206 z206
      obtain ⟨rfl, N206q, H206⟩ := hQ206
      have N206 := Fr.app N199 N206q
      obtain ⟨fs, hr, hrun, hended, eR, eW, eI, eS⟩ := Stand.leaveW (s := s) (vm₁ := s.vm) X206 hS0 (by rw [H206]; omega) (v := some (.int 1)) (fun h => by rw [Bd.returns] at h; cases h)
      refine ⟨_, _, pre205 _ ?_, hrun, hended, _, _, rfl, ?_, eR, eW, eI, eS.mono (by decide) (by decide)⟩
      ·skip
       show SS p e below T199 m 76 #[vI p1, vI p2, vI p3, vI p4, vI p5, vI c101, vI c102, vI c103, vI c104, vI 3, vR x199, .unset, .unset] [(.int c102)] _
       refine XS.ifYes X199.here hx rfl (pc0 := 76) (pc' := 105) rfl (hb hby at_76) rfl ((if0 _ _).trans (teq hc204).1) (by decide) (by decide) ?_
       refine XS.iconst X199.here hx rfl (hb hby at_105) ?_
       refine XS.istore X199.here hx rfl (hb hby at_106) rfl (l' := #[vI p1, vI p2, vI p3, vI p4, vI p5, vI c101, vI c102, vI c103, vI c104, vI 3, vR x199, vI 0, .unset]) rfl ?_
       refine XS.goto X199.here hx rfl (pc0 := 108) (pc' := 188) rfl (hb hby at_108) (by decide) (by decide) ?_
       refine XS.aload X199.here hx rfl (hb hby at_188) rfl rfl ?_
       show SS p e below T199 m 190 #[vI p1, vI p2, vI p3, vI p4, vI p5, vI c101, vI c102, vI c103, vI c104, vI 3, vR x199, vI 0, .unset] [(.ref x199)] _
       refine st206 _ ?_
       refine XS.iload X206.here hx rfl (hb hby at_193) rfl ?_
       refine XS.icmpNo X206.here hx rfl (hb hby at_195) rfl (teq (own_wf0 (show c102 ∈ ([c101, c102, c103] : List Int32) by simp) hc204 hpz : (wfR (([c101, c102, c103] : List Int32).length - prs ([c101, c102, c103] : List Int32)) mz ([c101, c102, c103] : List Int32).length) = (0 : Int32))).2 ?_
       refine XS.iconst X206.here hx rfl (hb hby at_198) ?_
       refine XS.goto X206.here hx rfl (pc0 := 199) (pc' := 203) rfl (hb hby at_199) (by decide) (by decide) ?_
       show SS p e below T206 m 203 #[vI p1, vI p2, vI p3, vI p4, vI p5, vI c101, vI c102, vI c103, vI c104, vI 3, vR x199, vI 0, .unset] [(.int 1)] _
       exact retN X206 hx (t := .boolean) Bd.returns (by simp) (hb hby at_203) hr
      ·show Q_rm0 Z p1 p2 p3 p4 p5 cs0 fm h0 n0 _ T206.heap _
       rw [H206]
       exact ⟨rfl, N206⟩
     ·skip
      have pre209 : ∀ t, SS p e below T199 m 87 #[vI p1, vI p2, vI p3, vI p4, vI p5, vI c101, vI c102, vI c103, vI c104, vI 3, vR x199, .unset, .unset] [(.int c103)] t → Steps p.tables e below (s₁.setTop (entryFrame m #[(.int p1), (.int p2), (.int p3), (.int p4), (.int p5)] maxLocals)) t := by
       intro t kt
       refine pre205 _ ?_
       show SS p e below T199 m 76 #[vI p1, vI p2, vI p3, vI p4, vI p5, vI c101, vI c102, vI c103, vI c104, vI 3, vR x199, .unset, .unset] [(.int c102)] _
       refine XS.ifNo X199.here hx rfl (hb hby at_76) rfl ((if0 _ _).trans (feq hc204).1) ?_
       refine XS.iload X199.here hx rfl (hb hby at_79) rfl ?_
       refine XS.iconst X199.here hx rfl (hb hby at_81) ?_
       refine XS.icmpNo X199.here hx rfl (hb hby at_82) rfl (flt (by decide : ¬ ((3 : Int32) < (3 : Int32)))).1 ?_
       refine XS.iload X199.here hx rfl (hb hby at_85) rfl ?_
       exact kt
      by_cases hc208 : c103 = (0 : Int32)
      ·skip
       obtain ⟨mz, hmz, hpz, hez⟩ := own_zero ([c101, c102, c103] : List Int32)
       have O211 : Old Z n0 T199.heap := O0.keep K199 all0
       obtain ⟨_, _, ⟨T210, L210, k210, n210⟩, -, X210, ⟨Lc210, hQ210, l210, y210, z210⟩, st210⟩ := Jvm.LawKit.callS X199 hx (y := mN34) hown (mvT hZ (tw hw 31 rfl)) (mvT hZ (tw hw 32 rfl)) (mvT hZ (tw hw 33 rfl)) (mvT hZ (tw hw 34 rfl)) (by decide) (backOf (W := 0) (rmWfU l Z a0 hw [] x199 ([c101, c102, c103] : List Int32) t199 kb199 cs0 mz fm T199.heap n0 O211 S_CS c_CS E199 Fv199 Fc199 V199 (by simp) (by simp) hmz hpz hez S_AD S_HI S_LO hcs S_FM r_FM) hZ (tw hw 34 rfl) (tw hw 33 rfl) (by decide) (by decide)) (g := (mkF m 190 #[vI p1, vI p2, vI p3, vI p4, vI p5, vI c101, vI c102, vI c103, vI c104, vI 3, vR x199, vI 0, .unset] [(.ref x199)])) rfl (by rw [hml]; rfl) (argsL := [(.ref x199)]) (rest := []) (lenOf pd_5 rfl) rfl (by show 2 * 0 + _ ≤ _; exact Nat.le_of_eq rfl) (hb hby at_190) (fun _ _ => ⟨rfl, rfl, (by decide : 4 + 0 ≤ _), (by decide : 800 + 0 ≤ _)⟩)
       dsimp only [Pt.U, Pt.locs, Pt.cells, Pt.slots] at X210 l210 y210 z210 st210 hQ210
       subst l210 y210 z210
       obtain ⟨rfl, N210q, H210⟩ := hQ210
       have N210 := Fr.app N199 N210q
       obtain ⟨fs, hr, hrun, hended, eR, eW, eI, eS⟩ := Stand.leaveW (s := s) (vm₁ := s.vm) X210 hS0 (by rw [H210]; omega) (v := some (.int 1)) (fun h => by rw [Bd.returns] at h; cases h)
       refine ⟨_, _, pre209 _ ?_, hrun, hended, _, _, rfl, ?_, eR, eW, eI, eS.mono (by decide) (by decide)⟩
       ·skip
        show SS p e below T199 m 87 #[vI p1, vI p2, vI p3, vI p4, vI p5, vI c101, vI c102, vI c103, vI c104, vI 3, vR x199, .unset, .unset] [(.int c103)] _
        refine XS.ifYes X199.here hx rfl (pc0 := 87) (pc' := 105) rfl (hb hby at_87) rfl ((if0 _ _).trans (teq hc208).1) (by decide) (by decide) ?_
        refine XS.iconst X199.here hx rfl (hb hby at_105) ?_
        refine XS.istore X199.here hx rfl (hb hby at_106) rfl (l' := #[vI p1, vI p2, vI p3, vI p4, vI p5, vI c101, vI c102, vI c103, vI c104, vI 3, vR x199, vI 0, .unset]) rfl ?_
        refine XS.goto X199.here hx rfl (pc0 := 108) (pc' := 188) rfl (hb hby at_108) (by decide) (by decide) ?_
        refine XS.aload X199.here hx rfl (hb hby at_188) rfl rfl ?_
        show SS p e below T199 m 190 #[vI p1, vI p2, vI p3, vI p4, vI p5, vI c101, vI c102, vI c103, vI c104, vI 3, vR x199, vI 0, .unset] [(.ref x199)] _
        refine st210 _ ?_
        refine XS.iload X210.here hx rfl (hb hby at_193) rfl ?_
        refine XS.icmpNo X210.here hx rfl (hb hby at_195) rfl (teq (own_wf0 (show c103 ∈ ([c101, c102, c103] : List Int32) by simp) hc208 hpz : (wfR (([c101, c102, c103] : List Int32).length - prs ([c101, c102, c103] : List Int32)) mz ([c101, c102, c103] : List Int32).length) = (0 : Int32))).2 ?_
        refine XS.iconst X210.here hx rfl (hb hby at_198) ?_
        refine XS.goto X210.here hx rfl (pc0 := 199) (pc' := 203) rfl (hb hby at_199) (by decide) (by decide) ?_
        show SS p e below T210 m 203 #[vI p1, vI p2, vI p3, vI p4, vI p5, vI c101, vI c102, vI c103, vI c104, vI 3, vR x199, vI 0, .unset] [(.int 1)] _
        exact retN X210 hx (t := .boolean) Bd.returns (by simp) (hb hby at_203) hr
       ·show Q_rm0 Z p1 p2 p3 p4 p5 cs0 fm h0 n0 _ T210.heap _
        rw [H210]
        exact ⟨rfl, N210⟩
      ·skip
       obtain ⟨mz, hmz, hpz, hez⟩ := own_zero ([c101, c102, c103] : List Int32)
       have O213 : Old Z n0 T199.heap := O0.keep K199 all0
       obtain ⟨_, _, ⟨T212, L212, k212, n212⟩, -, X212, ⟨Lc212, hQ212, l212, y212, z212⟩, st212⟩ := Jvm.LawKit.callS X199 hx (y := mN34) hown (mvT hZ (tw hw 31 rfl)) (mvT hZ (tw hw 32 rfl)) (mvT hZ (tw hw 33 rfl)) (mvT hZ (tw hw 34 rfl)) (by decide) (backOf (W := 0) (rmWfU l Z a0 hw [] x199 ([c101, c102, c103] : List Int32) t199 kb199 cs0 mz fm T199.heap n0 O213 S_CS c_CS E199 Fv199 Fc199 V199 (by simp) (by simp) hmz hpz hez S_AD S_HI S_LO hcs S_FM r_FM) hZ (tw hw 34 rfl) (tw hw 33 rfl) (by decide) (by decide)) (g := (mkF m 190 #[vI p1, vI p2, vI p3, vI p4, vI p5, vI c101, vI c102, vI c103, vI c104, vI 3, vR x199, vI 1, .unset] [(.ref x199)])) rfl (by rw [hml]; rfl) (argsL := [(.ref x199)]) (rest := []) (lenOf pd_5 rfl) rfl (by show 2 * 0 + _ ≤ _; exact Nat.le_of_eq rfl) (hb hby at_190) (fun _ _ => ⟨rfl, rfl, (by decide : 4 + 0 ≤ _), (by decide : 800 + 0 ≤ _)⟩)
       dsimp only [Pt.U, Pt.locs, Pt.cells, Pt.slots] at X212 l212 y212 z212 st212 hQ212
       subst l212 y212 z212
       obtain ⟨rfl, N212q, H212⟩ := hQ212
       have N212 := Fr.app N199 N212q
       obtain ⟨fs, hr, hrun, hended, eR, eW, eI, eS⟩ := Stand.leaveW (s := s) (vm₁ := s.vm) X212 hS0 (by rw [H212]; omega) (v := some (.int 1)) (fun h => by rw [Bd.returns] at h; cases h)
       refine ⟨_, _, pre209 _ ?_, hrun, hended, _, _, rfl, ?_, eR, eW, eI, eS.mono (by decide) (by decide)⟩
       ·skip
        show SS p e below T199 m 87 #[vI p1, vI p2, vI p3, vI p4, vI p5, vI c101, vI c102, vI c103, vI c104, vI 3, vR x199, .unset, .unset] [(.int c103)] _
        refine XS.ifNo X199.here hx rfl (hb hby at_87) rfl ((if0 _ _).trans (feq hc208).1) ?_
        refine XS.iload X199.here hx rfl (hb hby at_90) rfl ?_
        refine XS.iconst X199.here hx rfl (hb hby at_92) ?_
        refine XS.icmpYes X199.here hx rfl (pc0 := 93) (pc' := 101) rfl (hb hby at_93) rfl (tlt (by decide : (3 : Int32) < (4 : Int32))).1 (by decide) (by decide) ?_
        refine XS.iconst X199.here hx rfl (hb hby at_101) ?_
        refine XS.goto X199.here hx rfl (pc0 := 102) (pc' := 106) rfl (hb hby at_102) (by decide) (by decide) ?_
        refine XS.istore X199.here hx rfl (hb hby at_106) rfl (l' := #[vI p1, vI p2, vI p3, vI p4, vI p5, vI c101, vI c102, vI c103, vI c104, vI 3, vR x199, vI 1, .unset]) rfl ?_
        refine XS.goto X199.here hx rfl (pc0 := 108) (pc' := 188) rfl (hb hby at_108) (by decide) (by decide) ?_
        refine XS.aload X199.here hx rfl (hb hby at_188) rfl rfl ?_
        show SS p e below T199 m 190 #[vI p1, vI p2, vI p3, vI p4, vI p5, vI c101, vI c102, vI c103, vI c104, vI 3, vR x199, vI 1, .unset] [(.ref x199)] _
        refine st212 _ ?_
        refine XS.iload X212.here hx rfl (hb hby at_193) rfl ?_
        refine XS.icmpNo X212.here hx rfl (hb hby at_195) rfl (teq (own_wf1 (show ∀ c ∈ ([c101, c102, c103] : List Int32), ¬ c = 0 from (by intro c hc; simp only [List.mem_cons, List.not_mem_nil, or_false] at hc; rcases hc with rfl | rfl | rfl <;> assumption)) (Nat.le_trans (Nat.sub_le _ _) (by simp)) hez : (wfR (([c101, c102, c103] : List Int32).length - prs ([c101, c102, c103] : List Int32)) mz ([c101, c102, c103] : List Int32).length) = (1 : Int32))).2 ?_
        refine XS.iconst X212.here hx rfl (hb hby at_198) ?_
        refine XS.goto X212.here hx rfl (pc0 := 199) (pc' := 203) rfl (hb hby at_199) (by decide) (by decide) ?_
        show SS p e below T212 m 203 #[vI p1, vI p2, vI p3, vI p4, vI p5, vI c101, vI c102, vI c103, vI c104, vI 3, vR x199, vI 1, .unset] [(.int 1)] _
        exact retN X212 hx (t := .boolean) Bd.returns (by simp) (hb hby at_203) hr
       ·show Q_rm0 Z p1 p2 p3 p4 p5 cs0 fm h0 n0 _ T212.heap _
        rw [H212]
        exact ⟨rfl, N212⟩
  ·skip
   have hr214 : (p1 &&& (7 : Int32)) = (4 : Int32) := hm
   have hcs : ∀ c ∈ ([c101, c102, c103, c104] : List Int32), ¬ c < 0 ∧ ¬ (65535 : Int32) < c := (by intro c hc; simp only [List.mem_cons, List.not_mem_nil, or_false] at hc; rcases hc with rfl | rfl | rfl | rfl <;> assumption)
   have pre215 : ∀ t, SS p e below T104 m 39 #[vI p1, vI p2, vI p3, vI p4, vI p5, vI c101, vI c102, vI c103, vI c104, vI 4, .unset, .unset, .unset] [(.int 4)] t → Steps p.tables e below (s₁.setTop (entryFrame m #[(.int p1), (.int p2), (.int p3), (.int p4), (.int p5)] maxLocals)) t := by
    intro t kt
    refine pre137 _ ?_
    show SS p e below T104 m 37 #[vI p1, vI p2, vI p3, vI p4, vI p5, vI c101, vI c102, vI c103, vI c104, vI (p1 &&& (7 : Int32)), .unset, .unset, .unset] [] _
    rw [hr214]
    refine XS.iload X104.here hx rfl (hb hby at_37) rfl ?_
    exact kt
   rcases own_big ([c101, c102, c103, c104] : List Int32) with hL | ⟨m1, hj, hpre, hend⟩
   ·skip
    obtain ⟨_, _, ⟨T216, L216, k216, n216⟩, -, X216, ⟨Lc216, hQ216, l216, y216, z216⟩, st216⟩ := Jvm.LawKit.callS X104 hx (y := mN37) hown (mvT hZ (tw hw 6 rfl)) (mvT hZ (tw hw 7 rfl)) (mvT hZ (tw hw 2 rfl)) (mvT hZ (tw hw 8 rfl)) (by decide) (backOf (W := 0) (rmShort4L l Z a0 hw [] (4 : Int32) c101 c102 c103 c104 cs0 h0 n0 O0 S_CS c_CS rfl r101 r102 r103 r104 (own_rngL hcs hL)) hZ (tw hw 8 rfl) (tw hw 2 rfl) (by decide) (by decide)) (g := (mkF m 47 #[vI p1, vI p2, vI p3, vI p4, vI p5, vI c101, vI c102, vI c103, vI c104, vI 4, .unset, .unset, .unset] [(.int c104), (.int c103), (.int c102), (.int c101), (.int 4)])) rfl (by rw [hml]; rfl) (argsL := [(.int 4), (.int c101), (.int c102), (.int c103), (.int c104)]) (rest := []) (lenOf pd_1 rfl) rfl (by show 2 * 0 + _ ≤ _; exact Nat.le_of_eq rfl) (hb hby at_47) (fun _ _ => ⟨rfl, H104, (by decide : 0 + 4 ≤ _), (by decide : 0 + 800 ≤ _)⟩)
    dsimp only [Pt.U, Pt.locs, Pt.cells, Pt.slots] at X216 l216 y216 z216 st216 hQ216
    subst l216 y216 z216
    obtain ⟨x216, t216, kb216, rfl, N216q, K216, gx216, E216, Fv216, Fc216, tx216, V216⟩ := hQ216
    have ltx216 : @LT.lt Nat _ x216 T216.heap.size := E216.lt
    have ltt216 : @LT.lt Nat _ t216 T216.heap.size := V216.lt
    have sz1_K216 := K216.1
    have N216 := Fr.app N104 N216q
    have pre218 : ∀ t, SS p e below T216 m 65 #[vI p1, vI p2, vI p3, vI p4, vI p5, vI c101, vI c102, vI c103, vI c104, vI 4, vR x216, .unset, .unset] [(.int c101)] t → Steps p.tables e below (s₁.setTop (entryFrame m #[(.int p1), (.int p2), (.int p3), (.int p4), (.int p5)] maxLocals)) t := by
     intro t kt
     refine pre215 _ ?_
     show SS p e below T104 m 39 #[vI p1, vI p2, vI p3, vI p4, vI p5, vI c101, vI c102, vI c103, vI c104, vI 4, .unset, .unset, .unset] [(.int 4)] _
     refine XS.iload X104.here hx rfl (hb hby at_39) rfl ?_
     refine XS.iload X104.here hx rfl (hb hby at_41) rfl ?_
     refine XS.iload X104.here hx rfl (hb hby at_43) rfl ?_
     refine XS.iload X104.here hx rfl (hb hby at_45) rfl ?_
     show SS p e below T104 m 47 #[vI p1, vI p2, vI p3, vI p4, vI p5, vI c101, vI c102, vI c103, vI c104, vI 4, .unset, .unset, .unset] [(.int c104), (.int c103), (.int c102), (.int c101), (.int 4)] _
     refine st216 _ ?_
     refine XS.astore X216.here hx rfl (hb hby at_50) rfl rfl (l' := #[vI p1, vI p2, vI p3, vI p4, vI p5, vI c101, vI c102, vI c103, vI c104, vI 4, vR x216, .unset, .unset]) rfl ?_
     refine XS.iload X216.here hx rfl (hb hby at_52) rfl ?_
     refine XS.ifNo X216.here hx rfl (hb hby at_54) rfl ((if0 _ _).trans (tlt (by decide : (0 : Int32) < (4 : Int32))).2.2.2) ?_
     refine XS.iload X216.here hx rfl (hb hby at_57) rfl ?_
     refine XS.iconst X216.here hx rfl (hb hby at_59) ?_
     refine XS.icmpNo X216.here hx rfl (hb hby at_60) rfl (flt (by decide : ¬ ((4 : Int32) < (1 : Int32)))).1 ?_
     refine XS.iload X216.here hx rfl (hb hby at_63) rfl ?_
     exact kt
    by_cases hc217 : c101 = (0 : Int32)
    ·skip
     obtain ⟨mz, hmz, hpz, hez⟩ := own_zero (([c101, c102, c103, c104] : List Int32).map (fun c => c.toInt8.toInt32))
     have O220 : Old Z n0 T216.heap := O0.keep K216 all0
     obtain ⟨_, _, ⟨T219, L219, k219, n219⟩, -, X219, ⟨Lc219, hQ219, l219, y219, z219⟩, st219⟩ := Jvm.LawKit.callS X216 hx (y := mN34) hown (mvT hZ (tw hw 31 rfl)) (mvT hZ (tw hw 32 rfl)) (mvT hZ (tw hw 33 rfl)) (mvT hZ (tw hw 34 rfl)) (by decide) (backOf (W := 0) (rmWfL l Z a0 hw [] x216 (([c101, c102, c103, c104] : List Int32).map (fun c => c.toInt8.toInt32)) t216 kb216 cs0 mz T216.heap n0 O220 S_CS c_CS E216 Fv216 Fc216 V216 (by simp) (by simp) hmz hpz hez) hZ (tw hw 34 rfl) (tw hw 33 rfl) (by decide) (by decide)) (g := (mkF m 190 #[vI p1, vI p2, vI p3, vI p4, vI p5, vI c101, vI c102, vI c103, vI c104, vI 4, vR x216, vI 0, .unset] [(.ref x216)])) rfl (by rw [hml]; rfl) (argsL := [(.ref x216)]) (rest := []) (lenOf pd_5 rfl) rfl (by show 2 * 0 + _ ≤ _; exact Nat.le_of_eq rfl) (hb hby at_190) (fun _ _ => ⟨rfl, rfl, (by decide : 4 + 0 ≤ _), (by decide : 800 + 0 ≤ _)⟩)
     dsimp only [Pt.U, Pt.locs, Pt.cells, Pt.slots] at X219 l219 y219 z219 st219 hQ219
     subst l219 y219 z219
     obtain ⟨rfl, N219q, H219⟩ := hQ219
     have N219 := Fr.app N216 N219q
     obtain ⟨fs, hr, hrun, hended, eR, eW, eI, eS⟩ := Stand.leaveW (s := s) (vm₁ := s.vm) X219 hS0 (by rw [H219]; omega) (v := some (.int 1)) (fun h => by rw [Bd.returns] at h; cases h)
     refine ⟨_, _, pre218 _ ?_, hrun, hended, _, _, rfl, ?_, eR, eW, eI, eS.mono (by decide) (by decide)⟩
     ·skip
      show SS p e below T216 m 65 #[vI p1, vI p2, vI p3, vI p4, vI p5, vI c101, vI c102, vI c103, vI c104, vI 4, vR x216, .unset, .unset] [(.int c101)] _
      refine XS.ifYes X216.here hx rfl (pc0 := 65) (pc' := 105) rfl (hb hby at_65) rfl ((if0 _ _).trans (teq hc217).1) (by decide) (by decide) ?_
      refine XS.iconst X216.here hx rfl (hb hby at_105) ?_
      refine XS.istore X216.here hx rfl (hb hby at_106) rfl (l' := #[vI p1, vI p2, vI p3, vI p4, vI p5, vI c101, vI c102, vI c103, vI c104, vI 4, vR x216, vI 0, .unset]) rfl ?_
      refine XS.goto X216.here hx rfl (pc0 := 108) (pc' := 188) rfl (hb hby at_108) (by decide) (by decide) ?_
      refine XS.aload X216.here hx rfl (hb hby at_188) rfl rfl ?_
      show SS p e below T216 m 190 #[vI p1, vI p2, vI p3, vI p4, vI p5, vI c101, vI c102, vI c103, vI c104, vI 4, vR x216, vI 0, .unset] [(.ref x216)] _
      refine st219 _ ?_
      refine XS.iload X219.here hx rfl (hb hby at_193) rfl ?_
      refine XS.icmpNo X219.here hx rfl (hb hby at_195) rfl (teq (own_wf0 (own_zL (show c101 ∈ ([c101, c102, c103, c104] : List Int32) by simp) hc217) rfl hpz : (wfR (([c101, c102, c103, c104] : List Int32).map (fun c => c.toInt8.toInt32)).length mz (([c101, c102, c103, c104] : List Int32).map (fun c => c.toInt8.toInt32)).length) = (0 : Int32))).2 ?_
      refine XS.iconst X219.here hx rfl (hb hby at_198) ?_
      refine XS.goto X219.here hx rfl (pc0 := 199) (pc' := 203) rfl (hb hby at_199) (by decide) (by decide) ?_
      show SS p e below T219 m 203 #[vI p1, vI p2, vI p3, vI p4, vI p5, vI c101, vI c102, vI c103, vI c104, vI 4, vR x216, vI 0, .unset] [(.int 1)] _
      exact retN X219 hx (t := .boolean) Bd.returns (by simp) (hb hby at_203) hr
     ·show Q_rm0 Z p1 p2 p3 p4 p5 cs0 fm h0 n0 _ T219.heap _
      rw [H219]
      exact ⟨rfl, N219⟩
    ·skip
     have pre222 : ∀ t, SS p e below T216 m 76 #[vI p1, vI p2, vI p3, vI p4, vI p5, vI c101, vI c102, vI c103, vI c104, vI 4, vR x216, .unset, .unset] [(.int c102)] t → Steps p.tables e below (s₁.setTop (entryFrame m #[(.int p1), (.int p2), (.int p3), (.int p4), (.int p5)] maxLocals)) t := by
      intro t kt
      refine pre218 _ ?_
      show SS p e below T216 m 65 #[vI p1, vI p2, vI p3, vI p4, vI p5, vI c101, vI c102, vI c103, vI c104, vI 4, vR x216, .unset, .unset] [(.int c101)] _
      refine XS.ifNo X216.here hx rfl (hb hby at_65) rfl ((if0 _ _).trans (feq hc217).1) ?_
      refine XS.iload X216.here hx rfl (hb hby at_68) rfl ?_
      refine XS.iconst X216.here hx rfl (hb hby at_70) ?_
      refine XS.icmpNo X216.here hx rfl (hb hby at_71) rfl (flt (by decide : ¬ ((4 : Int32) < (2 : Int32)))).1 ?_
      refine XS.iload X216.here hx rfl (hb hby at_74) rfl ?_
      exact kt
     by_cases hc221 : c102 = (0 : Int32)
     ·skip
      obtain ⟨mz, hmz, hpz, hez⟩ := own_zero (([c101, c102, c103, c104] : List Int32).map (fun c => c.toInt8.toInt32))
      have O224 : Old Z n0 T216.heap := O0.keep K216 all0
      obtain ⟨_, _, ⟨T223, L223, k223, n223⟩, -, X223, ⟨Lc223, hQ223, l223, y223, z223⟩, st223⟩ := Jvm.LawKit.callS X216 hx (y := mN34) hown (mvT hZ (tw hw 31 rfl)) (mvT hZ (tw hw 32 rfl)) (mvT hZ (tw hw 33 rfl)) (mvT hZ (tw hw 34 rfl)) (by decide) (backOf (W := 0) (rmWfL l Z a0 hw [] x216 (([c101, c102, c103, c104] : List Int32).map (fun c => c.toInt8.toInt32)) t216 kb216 cs0 mz T216.heap n0 O224 S_CS c_CS E216 Fv216 Fc216 V216 (by simp) (by simp) hmz hpz hez) hZ (tw hw 34 rfl) (tw hw 33 rfl) (by decide) (by decide)) (g := (mkF m 190 #[vI p1, vI p2, vI p3, vI p4, vI p5, vI c101, vI c102, vI c103, vI c104, vI 4, vR x216, vI 0, .unset] [(.ref x216)])) rfl (by rw [hml]; rfl) (argsL := [(.ref x216)]) (rest := []) (lenOf pd_5 rfl) rfl (by show 2 * 0 + _ ≤ _; exact Nat.le_of_eq rfl) (hb hby at_190) (fun _ _ => ⟨rfl, rfl, (by decide : 4 + 0 ≤ _), (by decide : 800 + 0 ≤ _)⟩)
      dsimp only [Pt.U, Pt.locs, Pt.cells, Pt.slots] at X223 l223 y223 z223 st223 hQ223
      subst l223 y223 z223
      obtain ⟨rfl, N223q, H223⟩ := hQ223
      have N223 := Fr.app N216 N223q
      obtain ⟨fs, hr, hrun, hended, eR, eW, eI, eS⟩ := Stand.leaveW (s := s) (vm₁ := s.vm) X223 hS0 (by rw [H223]; omega) (v := some (.int 1)) (fun h => by rw [Bd.returns] at h; cases h)
      refine ⟨_, _, pre222 _ ?_, hrun, hended, _, _, rfl, ?_, eR, eW, eI, eS.mono (by decide) (by decide)⟩
      ·skip
       show SS p e below T216 m 76 #[vI p1, vI p2, vI p3, vI p4, vI p5, vI c101, vI c102, vI c103, vI c104, vI 4, vR x216, .unset, .unset] [(.int c102)] _
       refine XS.ifYes X216.here hx rfl (pc0 := 76) (pc' := 105) rfl (hb hby at_76) rfl ((if0 _ _).trans (teq hc221).1) (by decide) (by decide) ?_
       refine XS.iconst X216.here hx rfl (hb hby at_105) ?_
       refine XS.istore X216.here hx rfl (hb hby at_106) rfl (l' := #[vI p1, vI p2, vI p3, vI p4, vI p5, vI c101, vI c102, vI c103, vI c104, vI 4, vR x216, vI 0, .unset]) rfl ?_
       refine XS.goto X216.here hx rfl (pc0 := 108) (pc' := 188) rfl (hb hby at_108) (by decide) (by decide) ?_
       refine XS.aload X216.here hx rfl (hb hby at_188) rfl rfl ?_
       show SS p e below T216 m 190 #[vI p1, vI p2, vI p3, vI p4, vI p5, vI c101, vI c102, vI c103, vI c104, vI 4, vR x216, vI 0, .unset] [(.ref x216)] _
       refine st223 _ ?_
       refine XS.iload X223.here hx rfl (hb hby at_193) rfl ?_
       refine XS.icmpNo X223.here hx rfl (hb hby at_195) rfl (teq (own_wf0 (own_zL (show c102 ∈ ([c101, c102, c103, c104] : List Int32) by simp) hc221) rfl hpz : (wfR (([c101, c102, c103, c104] : List Int32).map (fun c => c.toInt8.toInt32)).length mz (([c101, c102, c103, c104] : List Int32).map (fun c => c.toInt8.toInt32)).length) = (0 : Int32))).2 ?_
       refine XS.iconst X223.here hx rfl (hb hby at_198) ?_
       refine XS.goto X223.here hx rfl (pc0 := 199) (pc' := 203) rfl (hb hby at_199) (by decide) (by decide) ?_
       show SS p e below T223 m 203 #[vI p1, vI p2, vI p3, vI p4, vI p5, vI c101, vI c102, vI c103, vI c104, vI 4, vR x216, vI 0, .unset] [(.int 1)] _
       exact retN X223 hx (t := .boolean) Bd.returns (by simp) (hb hby at_203) hr
      ·show Q_rm0 Z p1 p2 p3 p4 p5 cs0 fm h0 n0 _ T223.heap _
       rw [H223]
       exact ⟨rfl, N223⟩
     ·skip
      have pre226 : ∀ t, SS p e below T216 m 87 #[vI p1, vI p2, vI p3, vI p4, vI p5, vI c101, vI c102, vI c103, vI c104, vI 4, vR x216, .unset, .unset] [(.int c103)] t → Steps p.tables e below (s₁.setTop (entryFrame m #[(.int p1), (.int p2), (.int p3), (.int p4), (.int p5)] maxLocals)) t := by
       intro t kt
       refine pre222 _ ?_
       show SS p e below T216 m 76 #[vI p1, vI p2, vI p3, vI p4, vI p5, vI c101, vI c102, vI c103, vI c104, vI 4, vR x216, .unset, .unset] [(.int c102)] _
       refine XS.ifNo X216.here hx rfl (hb hby at_76) rfl ((if0 _ _).trans (feq hc221).1) ?_
       refine XS.iload X216.here hx rfl (hb hby at_79) rfl ?_
       refine XS.iconst X216.here hx rfl (hb hby at_81) ?_
       refine XS.icmpNo X216.here hx rfl (hb hby at_82) rfl (flt (by decide : ¬ ((4 : Int32) < (3 : Int32)))).1 ?_
       refine XS.iload X216.here hx rfl (hb hby at_85) rfl ?_
       exact kt
      by_cases hc225 : c103 = (0 : Int32)
      ·skip
       obtain ⟨mz, hmz, hpz, hez⟩ := own_zero (([c101, c102, c103, c104] : List Int32).map (fun c => c.toInt8.toInt32))
       have O228 : Old Z n0 T216.heap := O0.keep K216 all0
       obtain ⟨_, _, ⟨T227, L227, k227, n227⟩, -, X227, ⟨Lc227, hQ227, l227, y227, z227⟩, st227⟩ := Jvm.LawKit.callS X216 hx (y := mN34) hown (mvT hZ (tw hw 31 rfl)) (mvT hZ (tw hw 32 rfl)) (mvT hZ (tw hw 33 rfl)) (mvT hZ (tw hw 34 rfl)) (by decide) (backOf (W := 0) (rmWfL l Z a0 hw [] x216 (([c101, c102, c103, c104] : List Int32).map (fun c => c.toInt8.toInt32)) t216 kb216 cs0 mz T216.heap n0 O228 S_CS c_CS E216 Fv216 Fc216 V216 (by simp) (by simp) hmz hpz hez) hZ (tw hw 34 rfl) (tw hw 33 rfl) (by decide) (by decide)) (g := (mkF m 190 #[vI p1, vI p2, vI p3, vI p4, vI p5, vI c101, vI c102, vI c103, vI c104, vI 4, vR x216, vI 0, .unset] [(.ref x216)])) rfl (by rw [hml]; rfl) (argsL := [(.ref x216)]) (rest := []) (lenOf pd_5 rfl) rfl (by show 2 * 0 + _ ≤ _; exact Nat.le_of_eq rfl) (hb hby at_190) (fun _ _ => ⟨rfl, rfl, (by decide : 4 + 0 ≤ _), (by decide : 800 + 0 ≤ _)⟩)
       dsimp only [Pt.U, Pt.locs, Pt.cells, Pt.slots] at X227 l227 y227 z227 st227 hQ227
       subst l227 y227 z227
       obtain ⟨rfl, N227q, H227⟩ := hQ227
       have N227 := Fr.app N216 N227q
       obtain ⟨fs, hr, hrun, hended, eR, eW, eI, eS⟩ := Stand.leaveW (s := s) (vm₁ := s.vm) X227 hS0 (by rw [H227]; omega) (v := some (.int 1)) (fun h => by rw [Bd.returns] at h; cases h)
       refine ⟨_, _, pre226 _ ?_, hrun, hended, _, _, rfl, ?_, eR, eW, eI, eS.mono (by decide) (by decide)⟩
       ·skip
        show SS p e below T216 m 87 #[vI p1, vI p2, vI p3, vI p4, vI p5, vI c101, vI c102, vI c103, vI c104, vI 4, vR x216, .unset, .unset] [(.int c103)] _
        refine XS.ifYes X216.here hx rfl (pc0 := 87) (pc' := 105) rfl (hb hby at_87) rfl ((if0 _ _).trans (teq hc225).1) (by decide) (by decide) ?_
        refine XS.iconst X216.here hx rfl (hb hby at_105) ?_
        refine XS.istore X216.here hx rfl (hb hby at_106) rfl (l' := #[vI p1, vI p2, vI p3, vI p4, vI p5, vI c101, vI c102, vI c103, vI c104, vI 4, vR x216, vI 0, .unset]) rfl ?_
        refine XS.goto X216.here hx rfl (pc0 := 108) (pc' := 188) rfl (hb hby at_108) (by decide) (by decide) ?_
        refine XS.aload X216.here hx rfl (hb hby at_188) rfl rfl ?_
        show SS p e below T216 m 190 #[vI p1, vI p2, vI p3, vI p4, vI p5, vI c101, vI c102, vI c103, vI c104, vI 4, vR x216, vI 0, .unset] [(.ref x216)] _
        refine st227 _ ?_
        refine XS.iload X227.here hx rfl (hb hby at_193) rfl ?_
        refine XS.icmpNo X227.here hx rfl (hb hby at_195) rfl (teq (own_wf0 (own_zL (show c103 ∈ ([c101, c102, c103, c104] : List Int32) by simp) hc225) rfl hpz : (wfR (([c101, c102, c103, c104] : List Int32).map (fun c => c.toInt8.toInt32)).length mz (([c101, c102, c103, c104] : List Int32).map (fun c => c.toInt8.toInt32)).length) = (0 : Int32))).2 ?_
        refine XS.iconst X227.here hx rfl (hb hby at_198) ?_
        refine XS.goto X227.here hx rfl (pc0 := 199) (pc' := 203) rfl (hb hby at_199) (by decide) (by decide) ?_
        show SS p e below T227 m 203 #[vI p1, vI p2, vI p3, vI p4, vI p5, vI c101, vI c102, vI c103, vI c104, vI 4, vR x216, vI 0, .unset] [(.int 1)] _
        exact retN X227 hx (t := .boolean) Bd.returns (by simp) (hb hby at_203) hr
       ·show Q_rm0 Z p1 p2 p3 p4 p5 cs0 fm h0 n0 _ T227.heap _
        rw [H227]
        exact ⟨rfl, N227⟩
      ·skip
       have pre230 : ∀ t, SS p e below T216 m 98 #[vI p1, vI p2, vI p3, vI p4, vI p5, vI c101, vI c102, vI c103, vI c104, vI 4, vR x216, .unset, .unset] [(.int c104)] t → Steps p.tables e below (s₁.setTop (entryFrame m #[(.int p1), (.int p2), (.int p3), (.int p4), (.int p5)] maxLocals)) t := by
        intro t kt
        refine pre226 _ ?_
        show SS p e below T216 m 87 #[vI p1, vI p2, vI p3, vI p4, vI p5, vI c101, vI c102, vI c103, vI c104, vI 4, vR x216, .unset, .unset] [(.int c103)] _
        refine XS.ifNo X216.here hx rfl (hb hby at_87) rfl ((if0 _ _).trans (feq hc225).1) ?_
        refine XS.iload X216.here hx rfl (hb hby at_90) rfl ?_
        refine XS.iconst X216.here hx rfl (hb hby at_92) ?_
        refine XS.icmpNo X216.here hx rfl (hb hby at_93) rfl (flt (by decide : ¬ ((4 : Int32) < (4 : Int32)))).1 ?_
        refine XS.iload X216.here hx rfl (hb hby at_96) rfl ?_
        exact kt
       by_cases hc229 : c104 = (0 : Int32)
       ·skip
        obtain ⟨mz, hmz, hpz, hez⟩ := own_zero (([c101, c102, c103, c104] : List Int32).map (fun c => c.toInt8.toInt32))
        have O232 : Old Z n0 T216.heap := O0.keep K216 all0
        obtain ⟨_, _, ⟨T231, L231, k231, n231⟩, -, X231, ⟨Lc231, hQ231, l231, y231, z231⟩, st231⟩ := Jvm.LawKit.callS X216 hx (y := mN34) hown (mvT hZ (tw hw 31 rfl)) (mvT hZ (tw hw 32 rfl)) (mvT hZ (tw hw 33 rfl)) (mvT hZ (tw hw 34 rfl)) (by decide) (backOf (W := 0) (rmWfL l Z a0 hw [] x216 (([c101, c102, c103, c104] : List Int32).map (fun c => c.toInt8.toInt32)) t216 kb216 cs0 mz T216.heap n0 O232 S_CS c_CS E216 Fv216 Fc216 V216 (by simp) (by simp) hmz hpz hez) hZ (tw hw 34 rfl) (tw hw 33 rfl) (by decide) (by decide)) (g := (mkF m 190 #[vI p1, vI p2, vI p3, vI p4, vI p5, vI c101, vI c102, vI c103, vI c104, vI 4, vR x216, vI 0, .unset] [(.ref x216)])) rfl (by rw [hml]; rfl) (argsL := [(.ref x216)]) (rest := []) (lenOf pd_5 rfl) rfl (by show 2 * 0 + _ ≤ _; exact Nat.le_of_eq rfl) (hb hby at_190) (fun _ _ => ⟨rfl, rfl, (by decide : 4 + 0 ≤ _), (by decide : 800 + 0 ≤ _)⟩)
        dsimp only [Pt.U, Pt.locs, Pt.cells, Pt.slots] at X231 l231 y231 z231 st231 hQ231
        subst l231 y231 z231
        obtain ⟨rfl, N231q, H231⟩ := hQ231
        have N231 := Fr.app N216 N231q
        obtain ⟨fs, hr, hrun, hended, eR, eW, eI, eS⟩ := Stand.leaveW (s := s) (vm₁ := s.vm) X231 hS0 (by rw [H231]; omega) (v := some (.int 1)) (fun h => by rw [Bd.returns] at h; cases h)
        refine ⟨_, _, pre230 _ ?_, hrun, hended, _, _, rfl, ?_, eR, eW, eI, eS.mono (by decide) (by decide)⟩
        ·skip
         show SS p e below T216 m 98 #[vI p1, vI p2, vI p3, vI p4, vI p5, vI c101, vI c102, vI c103, vI c104, vI 4, vR x216, .unset, .unset] [(.int c104)] _
         refine XS.ifYes X216.here hx rfl (pc0 := 98) (pc' := 105) rfl (hb hby at_98) rfl ((if0 _ _).trans (teq hc229).1) (by decide) (by decide) ?_
         refine XS.iconst X216.here hx rfl (hb hby at_105) ?_
         refine XS.istore X216.here hx rfl (hb hby at_106) rfl (l' := #[vI p1, vI p2, vI p3, vI p4, vI p5, vI c101, vI c102, vI c103, vI c104, vI 4, vR x216, vI 0, .unset]) rfl ?_
         refine XS.goto X216.here hx rfl (pc0 := 108) (pc' := 188) rfl (hb hby at_108) (by decide) (by decide) ?_
         refine XS.aload X216.here hx rfl (hb hby at_188) rfl rfl ?_
         show SS p e below T216 m 190 #[vI p1, vI p2, vI p3, vI p4, vI p5, vI c101, vI c102, vI c103, vI c104, vI 4, vR x216, vI 0, .unset] [(.ref x216)] _
         refine st231 _ ?_
         refine XS.iload X231.here hx rfl (hb hby at_193) rfl ?_
         refine XS.icmpNo X231.here hx rfl (hb hby at_195) rfl (teq (own_wf0 (own_zL (show c104 ∈ ([c101, c102, c103, c104] : List Int32) by simp) hc229) rfl hpz : (wfR (([c101, c102, c103, c104] : List Int32).map (fun c => c.toInt8.toInt32)).length mz (([c101, c102, c103, c104] : List Int32).map (fun c => c.toInt8.toInt32)).length) = (0 : Int32))).2 ?_
         refine XS.iconst X231.here hx rfl (hb hby at_198) ?_
         refine XS.goto X231.here hx rfl (pc0 := 199) (pc' := 203) rfl (hb hby at_199) (by decide) (by decide) ?_
         show SS p e below T231 m 203 #[vI p1, vI p2, vI p3, vI p4, vI p5, vI c101, vI c102, vI c103, vI c104, vI 4, vR x216, vI 0, .unset] [(.int 1)] _
         exact retN X231 hx (t := .boolean) Bd.returns (by simp) (hb hby at_203) hr
        ·show Q_rm0 Z p1 p2 p3 p4 p5 cs0 fm h0 n0 _ T231.heap _
         rw [H231]
         exact ⟨rfl, N231⟩
       ·skip
        obtain ⟨mz, hmz, hpz, hez⟩ := own_zero (([c101, c102, c103, c104] : List Int32).map (fun c => c.toInt8.toInt32))
        have O234 : Old Z n0 T216.heap := O0.keep K216 all0
        obtain ⟨_, _, ⟨T233, L233, k233, n233⟩, -, X233, ⟨Lc233, hQ233, l233, y233, z233⟩, st233⟩ := Jvm.LawKit.callS X216 hx (y := mN34) hown (mvT hZ (tw hw 31 rfl)) (mvT hZ (tw hw 32 rfl)) (mvT hZ (tw hw 33 rfl)) (mvT hZ (tw hw 34 rfl)) (by decide) (backOf (W := 0) (rmWfL l Z a0 hw [] x216 (([c101, c102, c103, c104] : List Int32).map (fun c => c.toInt8.toInt32)) t216 kb216 cs0 mz T216.heap n0 O234 S_CS c_CS E216 Fv216 Fc216 V216 (by simp) (by simp) hmz hpz hez) hZ (tw hw 34 rfl) (tw hw 33 rfl) (by decide) (by decide)) (g := (mkF m 190 #[vI p1, vI p2, vI p3, vI p4, vI p5, vI c101, vI c102, vI c103, vI c104, vI 4, vR x216, vI 1, .unset] [(.ref x216)])) rfl (by rw [hml]; rfl) (argsL := [(.ref x216)]) (rest := []) (lenOf pd_5 rfl) rfl (by show 2 * 0 + _ ≤ _; exact Nat.le_of_eq rfl) (hb hby at_190) (fun _ _ => ⟨rfl, rfl, (by decide : 4 + 0 ≤ _), (by decide : 800 + 0 ≤ _)⟩)
        dsimp only [Pt.U, Pt.locs, Pt.cells, Pt.slots] at X233 l233 y233 z233 st233 hQ233
        subst l233 y233 z233
        obtain ⟨rfl, N233q, H233⟩ := hQ233
        have N233 := Fr.app N216 N233q
        obtain ⟨fs, hr, hrun, hended, eR, eW, eI, eS⟩ := Stand.leaveW (s := s) (vm₁ := s.vm) X233 hS0 (by rw [H233]; omega) (v := some (.int 1)) (fun h => by rw [Bd.returns] at h; cases h)
        refine ⟨_, _, pre230 _ ?_, hrun, hended, _, _, rfl, ?_, eR, eW, eI, eS.mono (by decide) (by decide)⟩
        ·skip
         show SS p e below T216 m 98 #[vI p1, vI p2, vI p3, vI p4, vI p5, vI c101, vI c102, vI c103, vI c104, vI 4, vR x216, .unset, .unset] [(.int c104)] _
         refine XS.ifNo X216.here hx rfl (hb hby at_98) rfl ((if0 _ _).trans (feq hc229).1) ?_
         refine XS.iconst X216.here hx rfl (hb hby at_101) ?_
         refine XS.goto X216.here hx rfl (pc0 := 102) (pc' := 106) rfl (hb hby at_102) (by decide) (by decide) ?_
         refine XS.istore X216.here hx rfl (hb hby at_106) rfl (l' := #[vI p1, vI p2, vI p3, vI p4, vI p5, vI c101, vI c102, vI c103, vI c104, vI 4, vR x216, vI 1, .unset]) rfl ?_
         refine XS.goto X216.here hx rfl (pc0 := 108) (pc' := 188) rfl (hb hby at_108) (by decide) (by decide) ?_
         refine XS.aload X216.here hx rfl (hb hby at_188) rfl rfl ?_
         show SS p e below T216 m 190 #[vI p1, vI p2, vI p3, vI p4, vI p5, vI c101, vI c102, vI c103, vI c104, vI 4, vR x216, vI 1, .unset] [(.ref x216)] _
         refine st233 _ ?_
         refine XS.iload X233.here hx rfl (hb hby at_193) rfl ?_
         refine XS.icmpNo X233.here hx rfl (hb hby at_195) rfl (teq (own_wf1 (own_nzL (own_rngL hcs hL) (show ∀ c ∈ ([c101, c102, c103, c104] : List Int32), ¬ c = 0 from (by intro c hc; simp only [List.mem_cons, List.not_mem_nil, or_false] at hc; rcases hc with rfl | rfl | rfl | rfl <;> assumption))) (by simp) hez : (wfR (([c101, c102, c103, c104] : List Int32).map (fun c => c.toInt8.toInt32)).length mz (([c101, c102, c103, c104] : List Int32).map (fun c => c.toInt8.toInt32)).length) = (1 : Int32))).2 ?_
         refine XS.iconst X233.here hx rfl (hb hby at_198) ?_
         refine XS.goto X233.here hx rfl (pc0 := 199) (pc' := 203) rfl (hb hby at_199) (by decide) (by decide) ?_
         show SS p e below T233 m 203 #[vI p1, vI p2, vI p3, vI p4, vI p5, vI c101, vI c102, vI c103, vI c104, vI 4, vR x216, vI 1, .unset] [(.int 1)] _
         exact retN X233 hx (t := .boolean) Bd.returns (by simp) (hb hby at_203) hr
        ·show Q_rm0 Z p1 p2 p3 p4 p5 cs0 fm h0 n0 _ T233.heap _
         rw [H233]
         exact ⟨rfl, N233⟩
   ·skip
    obtain ⟨_, _, ⟨T235, L235, k235, n235⟩, -, X235, ⟨Lc235, hQ235, l235, y235, z235⟩, st235⟩ := Jvm.LawKit.callS X104 hx (y := mN37) hown (mvT hZ (tw hw 6 rfl)) (mvT hZ (tw hw 7 rfl)) (mvT hZ (tw hw 2 rfl)) (mvT hZ (tw hw 8 rfl)) (by decide) (backOf (W := 0) (rmShort4U l Z a0 hw [] (4 : Int32) c101 c102 c103 c104 cs0 m1 h0 n0 O0 S_CS c_CS S_AD S_HI S_LO rfl r101 r102 r103 r104 hcs hj hpre hend) hZ (tw hw 8 rfl) (tw hw 2 rfl) (by decide) (by decide)) (g := (mkF m 47 #[vI p1, vI p2, vI p3, vI p4, vI p5, vI c101, vI c102, vI c103, vI c104, vI 4, .unset, .unset, .unset] [(.int c104), (.int c103), (.int c102), (.int c101), (.int 4)])) rfl (by rw [hml]; rfl) (argsL := [(.int 4), (.int c101), (.int c102), (.int c103), (.int c104)]) (rest := []) (lenOf pd_1 rfl) rfl (by show 2 * 0 + _ ≤ _; exact Nat.le_of_eq rfl) (hb hby at_47) (fun _ _ => ⟨rfl, H104, (by decide : 0 + 4 ≤ _), (by decide : 0 + 800 ≤ _)⟩)
    dsimp only [Pt.U, Pt.locs, Pt.cells, Pt.slots] at X235 l235 y235 z235 st235 hQ235
    subst l235 y235 z235
    obtain ⟨x235, t235, kb235, rfl, N235q, K235, gx235, E235, Fv235, Fc235, tx235, V235⟩ := hQ235
    have ltx235 : @LT.lt Nat _ x235 T235.heap.size := E235.lt
    have ltt235 : @LT.lt Nat _ t235 T235.heap.size := V235.lt
    have sz1_K235 := K235.1
    have N235 := Fr.app N104 N235q
    have pre237 : ∀ t, SS p e below T235 m 65 #[vI p1, vI p2, vI p3, vI p4, vI p5, vI c101, vI c102, vI c103, vI c104, vI 4, vR x235, .unset, .unset] [(.int c101)] t → Steps p.tables e below (s₁.setTop (entryFrame m #[(.int p1), (.int p2), (.int p3), (.int p4), (.int p5)] maxLocals)) t := by
     intro t kt
     refine pre215 _ ?_
     show SS p e below T104 m 39 #[vI p1, vI p2, vI p3, vI p4, vI p5, vI c101, vI c102, vI c103, vI c104, vI 4, .unset, .unset, .unset] [(.int 4)] _
     refine XS.iload X104.here hx rfl (hb hby at_39) rfl ?_
     refine XS.iload X104.here hx rfl (hb hby at_41) rfl ?_
     refine XS.iload X104.here hx rfl (hb hby at_43) rfl ?_
     refine XS.iload X104.here hx rfl (hb hby at_45) rfl ?_
     show SS p e below T104 m 47 #[vI p1, vI p2, vI p3, vI p4, vI p5, vI c101, vI c102, vI c103, vI c104, vI 4, .unset, .unset, .unset] [(.int c104), (.int c103), (.int c102), (.int c101), (.int 4)] _
     refine st235 _ ?_
     refine XS.astore X235.here hx rfl (hb hby at_50) rfl rfl (l' := #[vI p1, vI p2, vI p3, vI p4, vI p5, vI c101, vI c102, vI c103, vI c104, vI 4, vR x235, .unset, .unset]) rfl ?_
     refine XS.iload X235.here hx rfl (hb hby at_52) rfl ?_
     refine XS.ifNo X235.here hx rfl (hb hby at_54) rfl ((if0 _ _).trans (tlt (by decide : (0 : Int32) < (4 : Int32))).2.2.2) ?_
     refine XS.iload X235.here hx rfl (hb hby at_57) rfl ?_
     refine XS.iconst X235.here hx rfl (hb hby at_59) ?_
     refine XS.icmpNo X235.here hx rfl (hb hby at_60) rfl (flt (by decide : ¬ ((4 : Int32) < (1 : Int32)))).1 ?_
     refine XS.iload X235.here hx rfl (hb hby at_63) rfl ?_
     exact kt
    by_cases hc236 : c101 = (0 : Int32)
    ·skip
     obtain ⟨mz, hmz, hpz, hez⟩ := own_zero ([c101, c102, c103, c104] : List Int32)
     have O239 : Old Z n0 T235.heap := O0.keep K235 all0
     obtain ⟨_, _, ⟨T238, L238, k238, n238⟩, -, X238, ⟨Lc238, hQ238, l238, y238, z238⟩, st238⟩ := Jvm.LawKit.callS X235 hx (y := mN34) hown (mvT hZ (tw hw 31 rfl)) (mvT hZ (tw hw 32 rfl)) (mvT hZ (tw hw 33 rfl)) (mvT hZ (tw hw 34 rfl)) (by decide) (backOf (W := 0) (rmWfU l Z a0 hw [] x235 ([c101, c102, c103, c104] : List Int32) t235 kb235 cs0 mz fm T235.heap n0 O239 S_CS c_CS E235 Fv235 Fc235 V235 (by simp) (by simp) hmz hpz hez S_AD S_HI S_LO hcs S_FM r_FM) hZ (tw hw 34 rfl) (tw hw 33 rfl) (by decide) (by decide)) (g := (mkF m 190 #[vI p1, vI p2, vI p3, vI p4, vI p5, vI c101, vI c102, vI c103, vI c104, vI 4, vR x235, vI 0, .unset] [(.ref x235)])) rfl (by rw [hml]; rfl) (argsL := [(.ref x235)]) (rest := []) (lenOf pd_5 rfl) rfl (by show 2 * 0 + _ ≤ _; exact Nat.le_of_eq rfl) (hb hby at_190) (fun _ _ => ⟨rfl, rfl, (by decide : 4 + 0 ≤ _), (by decide : 800 + 0 ≤ _)⟩)
     dsimp only [Pt.U, Pt.locs, Pt.cells, Pt.slots] at X238 l238 y238 z238 st238 hQ238
     subst l238 y238 z238
     obtain ⟨rfl, N238q, H238⟩ := hQ238
     have N238 := Fr.app N235 N238q
     obtain ⟨fs, hr, hrun, hended, eR, eW, eI, eS⟩ := Stand.leaveW (s := s) (vm₁ := s.vm) X238 hS0 (by rw [H238]; omega) (v := some (.int 1)) (fun h => by rw [Bd.returns] at h; cases h)
     refine ⟨_, _, pre237 _ ?_, hrun, hended, _, _, rfl, ?_, eR, eW, eI, eS.mono (by decide) (by decide)⟩
     ·skip
      show SS p e below T235 m 65 #[vI p1, vI p2, vI p3, vI p4, vI p5, vI c101, vI c102, vI c103, vI c104, vI 4, vR x235, .unset, .unset] [(.int c101)] _
      refine XS.ifYes X235.here hx rfl (pc0 := 65) (pc' := 105) rfl (hb hby at_65) rfl ((if0 _ _).trans (teq hc236).1) (by decide) (by decide) ?_
      refine XS.iconst X235.here hx rfl (hb hby at_105) ?_
      refine XS.istore X235.here hx rfl (hb hby at_106) rfl (l' := #[vI p1, vI p2, vI p3, vI p4, vI p5, vI c101, vI c102, vI c103, vI c104, vI 4, vR x235, vI 0, .unset]) rfl ?_
      refine XS.goto X235.here hx rfl (pc0 := 108) (pc' := 188) rfl (hb hby at_108) (by decide) (by decide) ?_
      refine XS.aload X235.here hx rfl (hb hby at_188) rfl rfl ?_
      show SS p e below T235 m 190 #[vI p1, vI p2, vI p3, vI p4, vI p5, vI c101, vI c102, vI c103, vI c104, vI 4, vR x235, vI 0, .unset] [(.ref x235)] _
      refine st238 _ ?_
      refine XS.iload X238.here hx rfl (hb hby at_193) rfl ?_
      refine XS.icmpNo X238.here hx rfl (hb hby at_195) rfl (teq (own_wf0 (show c101 ∈ ([c101, c102, c103, c104] : List Int32) by simp) hc236 hpz : (wfR (([c101, c102, c103, c104] : List Int32).length - prs ([c101, c102, c103, c104] : List Int32)) mz ([c101, c102, c103, c104] : List Int32).length) = (0 : Int32))).2 ?_
      refine XS.iconst X238.here hx rfl (hb hby at_198) ?_
      refine XS.goto X238.here hx rfl (pc0 := 199) (pc' := 203) rfl (hb hby at_199) (by decide) (by decide) ?_
      show SS p e below T238 m 203 #[vI p1, vI p2, vI p3, vI p4, vI p5, vI c101, vI c102, vI c103, vI c104, vI 4, vR x235, vI 0, .unset] [(.int 1)] _
      exact retN X238 hx (t := .boolean) Bd.returns (by simp) (hb hby at_203) hr
     ·show Q_rm0 Z p1 p2 p3 p4 p5 cs0 fm h0 n0 _ T238.heap _
      rw [H238]
      exact ⟨rfl, N238⟩
    ·skip
     have pre241 : ∀ t, SS p e below T235 m 76 #[vI p1, vI p2, vI p3, vI p4, vI p5, vI c101, vI c102, vI c103, vI c104, vI 4, vR x235, .unset, .unset] [(.int c102)] t → Steps p.tables e below (s₁.setTop (entryFrame m #[(.int p1), (.int p2), (.int p3), (.int p4), (.int p5)] maxLocals)) t := by
      intro t kt
      refine pre237 _ ?_
      show SS p e below T235 m 65 #[vI p1, vI p2, vI p3, vI p4, vI p5, vI c101, vI c102, vI c103, vI c104, vI 4, vR x235, .unset, .unset] [(.int c101)] _
      refine XS.ifNo X235.here hx rfl (hb hby at_65) rfl ((if0 _ _).trans (feq hc236).1) ?_
      refine XS.iload X235.here hx rfl (hb hby at_68) rfl ?_
      refine XS.iconst X235.here hx rfl (hb hby at_70) ?_
      refine XS.icmpNo X235.here hx rfl (hb hby at_71) rfl (flt (by decide : ¬ ((4 : Int32) < (2 : Int32)))).1 ?_
      refine XS.iload X235.here hx rfl (hb hby at_74) rfl ?_
      exact kt
     by_cases hc240 : c102 = (0 : Int32)
     ·skip
      obtain ⟨mz, hmz, hpz, hez⟩ := own_zero ([c101, c102, c103, c104] : List Int32)
      have O243 : Old Z n0 T235.heap := O0.keep K235 all0
      obtain ⟨_, _, ⟨T242, L242, k242, n242⟩, -, X242, ⟨Lc242, hQ242, l242, y242, z242⟩, st242⟩ := Jvm.LawKit.callS X235 hx (y := mN34) hown (mvT hZ (tw hw 31 rfl)) (mvT hZ (tw hw 32 rfl)) (mvT hZ (tw hw 33 rfl)) (mvT hZ (tw hw 34 rfl)) (by decide) (backOf (W := 0) (rmWfU l Z a0 hw [] x235 ([c101, c102, c103, c104] : List Int32) t235 kb235 cs0 mz fm T235.heap n0 O243 S_CS c_CS E235 Fv235 Fc235 V235 (by simp) (by simp) hmz hpz hez S_AD S_HI S_LO hcs S_FM r_FM) hZ (tw hw 34 rfl) (tw hw 33 rfl) (by decide) (by decide)) (g := (mkF m 190 #[vI p1, vI p2, vI p3, vI p4, vI p5, vI c101, vI c102, vI c103, vI c104, vI 4, vR x235, vI 0, .unset] [(.ref x235)])) rfl (by rw [hml]; rfl) (argsL := [(.ref x235)]) (rest := []) (lenOf pd_5 rfl) rfl (by show 2 * 0 + _ ≤ _; exact Nat.le_of_eq rfl) (hb hby at_190) (fun _ _ => ⟨rfl, rfl, (by decide : 4 + 0 ≤ _), (by decide : 800 + 0 ≤ _)⟩)
      dsimp only [Pt.U, Pt.locs, Pt.cells, Pt.slots] at X242 l242 y242 z242 st242 hQ242
      subst l242 y242 z242
      obtain ⟨rfl, N242q, H242⟩ := hQ242
      have N242 := Fr.app N235 N242q
      obtain ⟨fs, hr, hrun, hended, eR, eW, eI, eS⟩ := Stand.leaveW (s := s) (vm₁ := s.vm) X242 hS0 (by rw [H242]; omega) (v := some (.int 1)) (fun h => by rw [Bd.returns] at h; cases h)
      refine ⟨_, _, pre241 _ ?_, hrun, hended, _, _, rfl, ?_, eR, eW, eI, eS.mono (by decide) (by decide)⟩
      ·skip
       show SS p e below T235 m 76 #[vI p1, vI p2, vI p3, vI p4, vI p5, vI c101, vI c102, vI c103, vI c104, vI 4, vR x235, .unset, .unset] [(.int c102)] _
       refine XS.ifYes X235.here hx rfl (pc0 := 76) (pc' := 105) rfl (hb hby at_76) rfl ((if0 _ _).trans (teq hc240).1) (by decide) (by decide) ?_
       refine XS.iconst X235.here hx rfl (hb hby at_105) ?_
       refine XS.istore X235.here hx rfl (hb hby at_106) rfl (l' := #[vI p1, vI p2, vI p3, vI p4, vI p5, vI c101, vI c102, vI c103, vI c104, vI 4, vR x235, vI 0, .unset]) rfl ?_
       refine XS.goto X235.here hx rfl (pc0 := 108) (pc' := 188) rfl (hb hby at_108) (by decide) (by decide) ?_
       refine XS.aload X235.here hx rfl (hb hby at_188) rfl rfl ?_
       show SS p e below T235 m 190 #[vI p1, vI p2, vI p3, vI p4, vI p5, vI c101, vI c102, vI c103, vI c104, vI 4, vR x235, vI 0, .unset] [(.ref x235)] _
       refine st242 _ ?_
       refine XS.iload X242.here hx rfl (hb hby at_193) rfl ?_
       refine XS.icmpNo X242.here hx rfl (hb hby at_195) rfl (teq (own_wf0 (show c102 ∈ ([c101, c102, c103, c104] : List Int32) by simp) hc240 hpz : (wfR (([c101, c102, c103, c104] : List Int32).length - prs ([c101, c102, c103, c104] : List Int32)) mz ([c101, c102, c103, c104] : List Int32).length) = (0 : Int32))).2 ?_
       refine XS.iconst X242.here hx rfl (hb hby at_198) ?_
       refine XS.goto X242.here hx rfl (pc0 := 199) (pc' := 203) rfl (hb hby at_199) (by decide) (by decide) ?_
       show SS p e below T242 m 203 #[vI p1, vI p2, vI p3, vI p4, vI p5, vI c101, vI c102, vI c103, vI c104, vI 4, vR x235, vI 0, .unset] [(.int 1)] _
       exact retN X242 hx (t := .boolean) Bd.returns (by simp) (hb hby at_203) hr
      ·show Q_rm0 Z p1 p2 p3 p4 p5 cs0 fm h0 n0 _ T242.heap _
       rw [H242]
       exact ⟨rfl, N242⟩
     ·skip
      have pre245 : ∀ t, SS p e below T235 m 87 #[vI p1, vI p2, vI p3, vI p4, vI p5, vI c101, vI c102, vI c103, vI c104, vI 4, vR x235, .unset, .unset] [(.int c103)] t → Steps p.tables e below (s₁.setTop (entryFrame m #[(.int p1), (.int p2), (.int p3), (.int p4), (.int p5)] maxLocals)) t := by
       intro t kt
       refine pre241 _ ?_
       show SS p e below T235 m 76 #[vI p1, vI p2, vI p3, vI p4, vI p5, vI c101, vI c102, vI c103, vI c104, vI 4, vR x235, .unset, .unset] [(.int c102)] _
       refine XS.ifNo X235.here hx rfl (hb hby at_76) rfl ((if0 _ _).trans (feq hc240).1) ?_
       refine XS.iload X235.here hx rfl (hb hby at_79) rfl ?_
       refine XS.iconst X235.here hx rfl (hb hby at_81) ?_
       refine XS.icmpNo X235.here hx rfl (hb hby at_82) rfl (flt (by decide : ¬ ((4 : Int32) < (3 : Int32)))).1 ?_
       refine XS.iload X235.here hx rfl (hb hby at_85) rfl ?_
       exact kt
      by_cases hc244 : c103 = (0 : Int32)
      ·skip
       obtain ⟨mz, hmz, hpz, hez⟩ := own_zero ([c101, c102, c103, c104] : List Int32)
       have O247 : Old Z n0 T235.heap := O0.keep K235 all0
       obtain ⟨_, _, ⟨T246, L246, k246, n246⟩, -, X246, ⟨Lc246, hQ246, l246, y246, z246⟩, st246⟩ := Jvm.LawKit.callS X235 hx (y := mN34) hown (mvT hZ (tw hw 31 rfl)) (mvT hZ (tw hw 32 rfl)) (mvT hZ (tw hw 33 rfl)) (mvT hZ (tw hw 34 rfl)) (by decide) (backOf (W := 0) (rmWfU l Z a0 hw [] x235 ([c101, c102, c103, c104] : List Int32) t235 kb235 cs0 mz fm T235.heap n0 O247 S_CS c_CS E235 Fv235 Fc235 V235 (by simp) (by simp) hmz hpz hez S_AD S_HI S_LO hcs S_FM r_FM) hZ (tw hw 34 rfl) (tw hw 33 rfl) (by decide) (by decide)) (g := (mkF m 190 #[vI p1, vI p2, vI p3, vI p4, vI p5, vI c101, vI c102, vI c103, vI c104, vI 4, vR x235, vI 0, .unset] [(.ref x235)])) rfl (by rw [hml]; rfl) (argsL := [(.ref x235)]) (rest := []) (lenOf pd_5 rfl) rfl (by show 2 * 0 + _ ≤ _; exact Nat.le_of_eq rfl) (hb hby at_190) (fun _ _ => ⟨rfl, rfl, (by decide : 4 + 0 ≤ _), (by decide : 800 + 0 ≤ _)⟩)
       dsimp only [Pt.U, Pt.locs, Pt.cells, Pt.slots] at X246 l246 y246 z246 st246 hQ246
       subst l246 y246 z246
       obtain ⟨rfl, N246q, H246⟩ := hQ246
       have N246 := Fr.app N235 N246q
       obtain ⟨fs, hr, hrun, hended, eR, eW, eI, eS⟩ := Stand.leaveW (s := s) (vm₁ := s.vm) X246 hS0 (by rw [H246]; omega) (v := some (.int 1)) (fun h => by rw [Bd.returns] at h; cases h)
       refine ⟨_, _, pre245 _ ?_, hrun, hended, _, _, rfl, ?_, eR, eW, eI, eS.mono (by decide) (by decide)⟩
       ·skip
        show SS p e below T235 m 87 #[vI p1, vI p2, vI p3, vI p4, vI p5, vI c101, vI c102, vI c103, vI c104, vI 4, vR x235, .unset, .unset] [(.int c103)] _
        refine XS.ifYes X235.here hx rfl (pc0 := 87) (pc' := 105) rfl (hb hby at_87) rfl ((if0 _ _).trans (teq hc244).1) (by decide) (by decide) ?_
        refine XS.iconst X235.here hx rfl (hb hby at_105) ?_
        refine XS.istore X235.here hx rfl (hb hby at_106) rfl (l' := #[vI p1, vI p2, vI p3, vI p4, vI p5, vI c101, vI c102, vI c103, vI c104, vI 4, vR x235, vI 0, .unset]) rfl ?_
        refine XS.goto X235.here hx rfl (pc0 := 108) (pc' := 188) rfl (hb hby at_108) (by decide) (by decide) ?_
        refine XS.aload X235.here hx rfl (hb hby at_188) rfl rfl ?_
        show SS p e below T235 m 190 #[vI p1, vI p2, vI p3, vI p4, vI p5, vI c101, vI c102, vI c103, vI c104, vI 4, vR x235, vI 0, .unset] [(.ref x235)] _
        refine st246 _ ?_
        refine XS.iload X246.here hx rfl (hb hby at_193) rfl ?_
        refine XS.icmpNo X246.here hx rfl (hb hby at_195) rfl (teq (own_wf0 (show c103 ∈ ([c101, c102, c103, c104] : List Int32) by simp) hc244 hpz : (wfR (([c101, c102, c103, c104] : List Int32).length - prs ([c101, c102, c103, c104] : List Int32)) mz ([c101, c102, c103, c104] : List Int32).length) = (0 : Int32))).2 ?_
        refine XS.iconst X246.here hx rfl (hb hby at_198) ?_
        refine XS.goto X246.here hx rfl (pc0 := 199) (pc' := 203) rfl (hb hby at_199) (by decide) (by decide) ?_
        show SS p e below T246 m 203 #[vI p1, vI p2, vI p3, vI p4, vI p5, vI c101, vI c102, vI c103, vI c104, vI 4, vR x235, vI 0, .unset] [(.int 1)] _
        exact retN X246 hx (t := .boolean) Bd.returns (by simp) (hb hby at_203) hr
       ·show Q_rm0 Z p1 p2 p3 p4 p5 cs0 fm h0 n0 _ T246.heap _
        rw [H246]
        exact ⟨rfl, N246⟩
      ·skip
       have pre249 : ∀ t, SS p e below T235 m 98 #[vI p1, vI p2, vI p3, vI p4, vI p5, vI c101, vI c102, vI c103, vI c104, vI 4, vR x235, .unset, .unset] [(.int c104)] t → Steps p.tables e below (s₁.setTop (entryFrame m #[(.int p1), (.int p2), (.int p3), (.int p4), (.int p5)] maxLocals)) t := by
        intro t kt
        refine pre245 _ ?_
        show SS p e below T235 m 87 #[vI p1, vI p2, vI p3, vI p4, vI p5, vI c101, vI c102, vI c103, vI c104, vI 4, vR x235, .unset, .unset] [(.int c103)] _
        refine XS.ifNo X235.here hx rfl (hb hby at_87) rfl ((if0 _ _).trans (feq hc244).1) ?_
        refine XS.iload X235.here hx rfl (hb hby at_90) rfl ?_
        refine XS.iconst X235.here hx rfl (hb hby at_92) ?_
        refine XS.icmpNo X235.here hx rfl (hb hby at_93) rfl (flt (by decide : ¬ ((4 : Int32) < (4 : Int32)))).1 ?_
        refine XS.iload X235.here hx rfl (hb hby at_96) rfl ?_
        exact kt
       by_cases hc248 : c104 = (0 : Int32)
       ·skip
        obtain ⟨mz, hmz, hpz, hez⟩ := own_zero ([c101, c102, c103, c104] : List Int32)
        have O251 : Old Z n0 T235.heap := O0.keep K235 all0
        obtain ⟨_, _, ⟨T250, L250, k250, n250⟩, -, X250, ⟨Lc250, hQ250, l250, y250, z250⟩, st250⟩ := Jvm.LawKit.callS X235 hx (y := mN34) hown (mvT hZ (tw hw 31 rfl)) (mvT hZ (tw hw 32 rfl)) (mvT hZ (tw hw 33 rfl)) (mvT hZ (tw hw 34 rfl)) (by decide) (backOf (W := 0) (rmWfU l Z a0 hw [] x235 ([c101, c102, c103, c104] : List Int32) t235 kb235 cs0 mz fm T235.heap n0 O251 S_CS c_CS E235 Fv235 Fc235 V235 (by simp) (by simp) hmz hpz hez S_AD S_HI S_LO hcs S_FM r_FM) hZ (tw hw 34 rfl) (tw hw 33 rfl) (by decide) (by decide)) (g := (mkF m 190 #[vI p1, vI p2, vI p3, vI p4, vI p5, vI c101, vI c102, vI c103, vI c104, vI 4, vR x235, vI 0, .unset] [(.ref x235)])) rfl (by rw [hml]; rfl) (argsL := [(.ref x235)]) (rest := []) (lenOf pd_5 rfl) rfl (by show 2 * 0 + _ ≤ _; exact Nat.le_of_eq rfl) (hb hby at_190) (fun _ _ => ⟨rfl, rfl, (by decide : 4 + 0 ≤ _), (by decide : 800 + 0 ≤ _)⟩)
        dsimp only [Pt.U, Pt.locs, Pt.cells, Pt.slots] at X250 l250 y250 z250 st250 hQ250
        subst l250 y250 z250
        obtain ⟨rfl, N250q, H250⟩ := hQ250
        have N250 := Fr.app N235 N250q
        obtain ⟨fs, hr, hrun, hended, eR, eW, eI, eS⟩ := Stand.leaveW (s := s) (vm₁ := s.vm) X250 hS0 (by rw [H250]; omega) (v := some (.int 1)) (fun h => by rw [Bd.returns] at h; cases h)
        refine ⟨_, _, pre249 _ ?_, hrun, hended, _, _, rfl, ?_, eR, eW, eI, eS.mono (by decide) (by decide)⟩
        ·skip
         show SS p e below T235 m 98 #[vI p1, vI p2, vI p3, vI p4, vI p5, vI c101, vI c102, vI c103, vI c104, vI 4, vR x235, .unset, .unset] [(.int c104)] _
         refine XS.ifYes X235.here hx rfl (pc0 := 98) (pc' := 105) rfl (hb hby at_98) rfl ((if0 _ _).trans (teq hc248).1) (by decide) (by decide) ?_
         refine XS.iconst X235.here hx rfl (hb hby at_105) ?_
         refine XS.istore X235.here hx rfl (hb hby at_106) rfl (l' := #[vI p1, vI p2, vI p3, vI p4, vI p5, vI c101, vI c102, vI c103, vI c104, vI 4, vR x235, vI 0, .unset]) rfl ?_
         refine XS.goto X235.here hx rfl (pc0 := 108) (pc' := 188) rfl (hb hby at_108) (by decide) (by decide) ?_
         refine XS.aload X235.here hx rfl (hb hby at_188) rfl rfl ?_
         show SS p e below T235 m 190 #[vI p1, vI p2, vI p3, vI p4, vI p5, vI c101, vI c102, vI c103, vI c104, vI 4, vR x235, vI 0, .unset] [(.ref x235)] _
         refine st250 _ ?_
         refine XS.iload X250.here hx rfl (hb hby at_193) rfl ?_
         refine XS.icmpNo X250.here hx rfl (hb hby at_195) rfl (teq (own_wf0 (show c104 ∈ ([c101, c102, c103, c104] : List Int32) by simp) hc248 hpz : (wfR (([c101, c102, c103, c104] : List Int32).length - prs ([c101, c102, c103, c104] : List Int32)) mz ([c101, c102, c103, c104] : List Int32).length) = (0 : Int32))).2 ?_
         refine XS.iconst X250.here hx rfl (hb hby at_198) ?_
         refine XS.goto X250.here hx rfl (pc0 := 199) (pc' := 203) rfl (hb hby at_199) (by decide) (by decide) ?_
         show SS p e below T250 m 203 #[vI p1, vI p2, vI p3, vI p4, vI p5, vI c101, vI c102, vI c103, vI c104, vI 4, vR x235, vI 0, .unset] [(.int 1)] _
         exact retN X250 hx (t := .boolean) Bd.returns (by simp) (hb hby at_203) hr
        ·show Q_rm0 Z p1 p2 p3 p4 p5 cs0 fm h0 n0 _ T250.heap _
         rw [H250]
         exact ⟨rfl, N250⟩
       ·skip
        obtain ⟨mz, hmz, hpz, hez⟩ := own_zero ([c101, c102, c103, c104] : List Int32)
        have O253 : Old Z n0 T235.heap := O0.keep K235 all0
        obtain ⟨_, _, ⟨T252, L252, k252, n252⟩, -, X252, ⟨Lc252, hQ252, l252, y252, z252⟩, st252⟩ := Jvm.LawKit.callS X235 hx (y := mN34) hown (mvT hZ (tw hw 31 rfl)) (mvT hZ (tw hw 32 rfl)) (mvT hZ (tw hw 33 rfl)) (mvT hZ (tw hw 34 rfl)) (by decide) (backOf (W := 0) (rmWfU l Z a0 hw [] x235 ([c101, c102, c103, c104] : List Int32) t235 kb235 cs0 mz fm T235.heap n0 O253 S_CS c_CS E235 Fv235 Fc235 V235 (by simp) (by simp) hmz hpz hez S_AD S_HI S_LO hcs S_FM r_FM) hZ (tw hw 34 rfl) (tw hw 33 rfl) (by decide) (by decide)) (g := (mkF m 190 #[vI p1, vI p2, vI p3, vI p4, vI p5, vI c101, vI c102, vI c103, vI c104, vI 4, vR x235, vI 1, .unset] [(.ref x235)])) rfl (by rw [hml]; rfl) (argsL := [(.ref x235)]) (rest := []) (lenOf pd_5 rfl) rfl (by show 2 * 0 + _ ≤ _; exact Nat.le_of_eq rfl) (hb hby at_190) (fun _ _ => ⟨rfl, rfl, (by decide : 4 + 0 ≤ _), (by decide : 800 + 0 ≤ _)⟩)
        dsimp only [Pt.U, Pt.locs, Pt.cells, Pt.slots] at X252 l252 y252 z252 st252 hQ252
        subst l252 y252 z252
        obtain ⟨rfl, N252q, H252⟩ := hQ252
        have N252 := Fr.app N235 N252q
        obtain ⟨fs, hr, hrun, hended, eR, eW, eI, eS⟩ := Stand.leaveW (s := s) (vm₁ := s.vm) X252 hS0 (by rw [H252]; omega) (v := some (.int 1)) (fun h => by rw [Bd.returns] at h; cases h)
        refine ⟨_, _, pre249 _ ?_, hrun, hended, _, _, rfl, ?_, eR, eW, eI, eS.mono (by decide) (by decide)⟩
        ·skip
         show SS p e below T235 m 98 #[vI p1, vI p2, vI p3, vI p4, vI p5, vI c101, vI c102, vI c103, vI c104, vI 4, vR x235, .unset, .unset] [(.int c104)] _
         refine XS.ifNo X235.here hx rfl (hb hby at_98) rfl ((if0 _ _).trans (feq hc248).1) ?_
         refine XS.iconst X235.here hx rfl (hb hby at_101) ?_
         refine XS.goto X235.here hx rfl (pc0 := 102) (pc' := 106) rfl (hb hby at_102) (by decide) (by decide) ?_
         refine XS.istore X235.here hx rfl (hb hby at_106) rfl (l' := #[vI p1, vI p2, vI p3, vI p4, vI p5, vI c101, vI c102, vI c103, vI c104, vI 4, vR x235, vI 1, .unset]) rfl ?_
         refine XS.goto X235.here hx rfl (pc0 := 108) (pc' := 188) rfl (hb hby at_108) (by decide) (by decide) ?_
         refine XS.aload X235.here hx rfl (hb hby at_188) rfl rfl ?_
         show SS p e below T235 m 190 #[vI p1, vI p2, vI p3, vI p4, vI p5, vI c101, vI c102, vI c103, vI c104, vI 4, vR x235, vI 1, .unset] [(.ref x235)] _
         refine st252 _ ?_
         refine XS.iload X252.here hx rfl (hb hby at_193) rfl ?_
         refine XS.icmpNo X252.here hx rfl (hb hby at_195) rfl (teq (own_wf1 (show ∀ c ∈ ([c101, c102, c103, c104] : List Int32), ¬ c = 0 from (by intro c hc; simp only [List.mem_cons, List.not_mem_nil, or_false] at hc; rcases hc with rfl | rfl | rfl | rfl <;> assumption)) (Nat.le_trans (Nat.sub_le _ _) (by simp)) hez : (wfR (([c101, c102, c103, c104] : List Int32).length - prs ([c101, c102, c103, c104] : List Int32)) mz ([c101, c102, c103, c104] : List Int32).length) = (1 : Int32))).2 ?_
         refine XS.iconst X252.here hx rfl (hb hby at_198) ?_
         refine XS.goto X252.here hx rfl (pc0 := 199) (pc' := 203) rfl (hb hby at_199) (by decide) (by decide) ?_
         show SS p e below T252 m 203 #[vI p1, vI p2, vI p3, vI p4, vI p5, vI c101, vI c102, vI c103, vI c104, vI 4, vR x235, vI 1, .unset] [(.int 1)] _
         exact retN X252 hx (t := .boolean) Bd.returns (by simp) (hb hby at_203) hr
        ·show Q_rm0 Z p1 p2 p3 p4 p5 cs0 fm h0 n0 _ T252.heap _
         rw [H252]
         exact ⟨rfl, N252⟩
theorem own_sta {s : State} {args : Array Value} {C n d : String} {k : Int32} (h : (Jvm.Cond.eq (Jvm.Term.static C n d) (Jvm.Term.int k)).value args s none s [] = some true) (hi : (Jvm.Cond.initializedFor C n d).before args s = true) : Sta s s.heap C n d (.int k) := by
 obtain ⟨x, y, ex, ey, k1, k2⟩ := cmp_v (Or.inl h)
 have ey' : y = .int k := Option.some.inj (ey.symm.trans (Term.int_eval k))
 subst ey'
 obtain ⟨z, rfl⟩ := k2
 have hz : z = k := gotT (Cond.eq_ints ex ey) h
 subst hz
 exact Sta.start ex (Or.inl hi)
set_option maxRecDepth 65536 in
set_option maxHeartbeats 40000000 in
theorem comes_1 {Post : Tables → Env → Array Value → State → Outcome → State → Prop} (hpost : ∀ tb e args s v u, (limb_1_1.after args s (.returned v) u = true ∧ limb_1_2.after args s (.returned v) u = true ∧ True) → ReturnedEndW s (.returned v) u (Jvm.fieldLocs frame_1_writes args s ++ Jvm.arrayLocs frame_1_arrays args s ++ Jvm.staticLocs frame_1_statics s) 24 3200 → Post tb e args s (.returned v) u) :
  ArmFor flags0 classFile x code maxLocals ret World_1 tables_1 room_1 Calls_1 rest_1 Pre_1 Post := by
 intro l hfl _ _ p e ha hc hk s m args below hf hA hF happ hP
 obtain ⟨hcalls, hrest, hpre⟩ := hP
 obtain ⟨-, -, -, hnamed, -, -, -, hat⟩ := (Spec.applies_iff hf).mp happ
 obtain ⟨hg, hn⟩ := and_e (Cond.before_iff.mp (show (Jvm.Cond.and given_1 narrow_1).before args s = true from hpre))
 obtain ⟨gc, g0⟩ := and_e hg
 obtain ⟨ga0, g1⟩ := and_e g0
 obtain ⟨ga1, g2⟩ := and_e g1
 obtain ⟨ga2, g3⟩ := and_e g2
 obtain ⟨ga3, g4⟩ := and_e g3
 have ga4 := g4
 obtain ⟨w0, w1, w2, w3, w4, rfl⟩ : ∃ w0 w1 w2 w3 w4 : Value, args = #[w0, w1, w2, w3, w4] := by
  have hs : args.size = 5 := by simpa [Cond.value, given_1] using gc
  obtain ⟨L⟩ := args
  match L, hs with
  | [w0, w1, w2, w3, w4], _ => exact ⟨w0, w1, w2, w3, w4, rfl⟩
 obtain ⟨i0, ei0⟩ := is_v ga0
 obtain rfl : w0 = (.int i0) := Option.some.inj ei0
 obtain ⟨i1, ei1⟩ := is_v ga1
 obtain rfl : w1 = (.int i1) := Option.some.inj ei1
 obtain ⟨i2, ei2⟩ := is_v ga2
 obtain rfl : w2 = (.int i2) := Option.some.inj ei2
 obtain ⟨i3, ei3⟩ := is_v ga3
 obtain rfl : w3 = (.int i3) := Option.some.inj ei3
 obtain ⟨i4, ei4⟩ := is_v ga4
 obtain rfl : w4 = (.int i4) := Option.some.inj ei4
 have hw := fun d (hd : d ∈ tables_1) => atoms_spec (ws := Jvm.Cond.code x code maxLocals ret :: tables_1) hat d (List.mem_cons_of_mem _ hd)
 have hfit : Fit s := fun {y c} hc i hi => by
  obtain ⟨ha, rfl⟩ := Array.getElem?_eq_some_iff.mp hc
  have q := List.all_eq_true.mp ((Array.all_eq_true_iff_forall_mem.mp hF) _ (Array.getElem_mem ha)) i (List.mem_range.mpr hi)
  simpa [Array.getElem?_eq_getElem hi] using q
 obtain ⟨hsets, hown0⟩ := atoms_of _ (rest_1_c_eq ▸ (show rest_1_c.before _ s = true from hrest))
 have n5 := not_v (Cond.before_iff.mp (hsets _ (List.mem_of_getElem? (i := 2) rfl)))
 obtain ⟨cs0, eCS⟩ := is_v (Cond.before_iff.mp (hsets _ (List.mem_of_getElem? (i := 1) rfl)))
 have S_CS : Sta s s.heap "java/lang/String" "COMPACT_STRINGS" "Z" (.int cs0) := Sta.start eCS (Or.inl (hsets _ (List.mem_of_getElem? (i := 0) rfl)))
 have c_CS : ¬ (cs0 = (0 : Int32)) := gotF (Cond.eq_ints eCS (Term.int_eval (0))) n5
 obtain ⟨fm, eFM, rFM⟩ := isR_v (Cond.before_iff.mp (hsets _ (List.mem_of_getElem? (i := 8) rfl)))
 have S_FM : Sta s s.heap "jdk/internal/util/Preconditions" "SIOOBE_FORMATTER" "Ljava/util/function/BiFunction;" fm := Sta.start eFM (Or.inl (hsets _ (List.mem_of_getElem? (i := 7) rfl)))
 have S_AD : Sta s s.heap "java/lang/StringUTF16" "$assertionsDisabled" "Z" (.int 1) := own_sta (Cond.before_iff.mp (hsets _ (List.mem_of_getElem? (i := 12) rfl))) (hsets _ (List.mem_of_getElem? (i := 11) rfl))
 have S_HI : Sta s s.heap "java/lang/StringUTF16" "HI_BYTE_SHIFT" "I" (.int 0) := own_sta (Cond.before_iff.mp (hsets _ (List.mem_of_getElem? (i := 15) rfl))) (hsets _ (List.mem_of_getElem? (i := 14) rfl))
 have S_LO : Sta s s.heap "java/lang/StringUTF16" "LO_BYTE_SHIFT" "I" (.int 8) := own_sta (Cond.before_iff.mp (hsets _ (List.mem_of_getElem? (i := 18) rfl))) (hsets _ (List.mem_of_getElem? (i := 17) rfl))
 have wStr : ∀ d ∈ Bundle.stringAtoms, d.before _ s = true := fun d hd => hw d ((by decide +kernel : ∀ d ∈ Bundle.stringAtoms, d ∈ tables_1) d hd)
 have hEW : EW s _ EL1 := EW.cons (tw hw 23 rfl) (by decide) EW.nil
 have hCH : CHv s EL1 s.vm s.heap := CHv.start hEW (fun p hp => hcalls.1 p hp) (hsets _ (List.mem_of_getElem? (i := 2) rfl)) (wStr _ (by simp [Bundle.stringAtoms])) (wStr _ (by simp [Bundle.stringAtoms, Bundle.sN]))
 obtain ⟨n, o, h1, h2, h3, _, L, rfl, ⟨rfl, N⟩, hq⟩ := rm0 l s _ hw tables_1 i0 i1 i2 i3 i4 cs0 fm s.heap s.heap.size (Old.start s) S_CS c_CS S_AD S_HI S_LO S_FM rFM p e ha hc hk s m _ below hf ((Spec.applies_iff_loose hf).mp happ).1 ⟨rfl, State.Warmed39.refl s, rfl, hCH⟩ trivial
 obtain ⟨q1, q2, q3, q4⟩ := hq
 refine ⟨n, _, h1, h2, h3, hpost _ _ _ _ _ _ ⟨Cond.after_iff.mpr rfl, Cond.after_iff.mpr (eq_i res_at (Term.int_eval (1)) rfl), trivial⟩ ⟨q1, q2, q3, (q4.sift fun y hy => Or.inr (N y hy)).mono (by decide) (by decide)⟩⟩
theorem main_1_1 : Claimed_1_1 := comes_1 fun _ _ _ _ _ _ h hF => ⟨h.1, hF⟩
theorem main_1_2 : Claimed_1_2 := comes_1 fun _ _ _ _ _ _ h hF => ⟨h.2.1, hF⟩
end Jvm.Pilot.@@N@@
namespace Jvm.Pilot.@@N@@
open Jvm Jvm.ClassFile Sem Op Lib Jvm.Free Jvm.Stand Jvm.Pilot.@@N@@.Jvm.D
/-! MADE BY PROGRAM (witnessworld.py) out of the Statement's table words and the real class files: 23 classes; the members and pool entries that the words name. The judged class is class 1, her method 5. -/
namespace start1
open Jvm.ClassFile
def u (s : String) : CpInfo := .utf8 (stringToUtf16 s)
/-- a pool by its gaps: so many unusable entries, then the entry; so many at the end -/
def gap : Nat → List CpInfo → List CpInfo
  | 0, r => r
  | n + 1, r => .unusable :: gap n r
def poolList (es : List (Nat × CpInfo)) (last : Nat) : List CpInfo := es.foldr (fun e r => gap e.1 (e.2 :: r)) (gap last [])
def pool (es : List (Nat × CpInfo)) (last : Nat) : Array CpInfo := ⟨poolList es last⟩
def fileOf (pool : Array CpInfo) (this : Nat) (attrs : Array Attribute := #[]) (ms : Array MethodInfo := #[]) (fl : Nat := 33) (sup : Nat := 0) (ifs : Array Nat := #[]) (fds : Array FieldInfo := #[]) : ClassFile where
  minorVersion := 0
  majorVersion := 65
  constantPool := pool
  accessFlags := fl
  thisClass := this
  superClass := sup
  interfaces := ifs
  fields := fds
  methods := ms
  attributes := attrs
def plain (name : String) (sup : Option ClassId) : Class where
  name := name
  kind := .ordinary
  loader := none
  accessFlags := 33
  super := sup
  interfaces := #[]
  cf := none
  fields := #[]
  methods := #[]
  instanceTypes := #[]
  staticTypes := #[]
  resolved := #[]
  callSites := []
  init := .initialized
  statics := none
  mirror := none

def pool0 : Array CpInfo := pool [(5, u "<init>"), (0, u "()V"), (1, .class_ 10), (1, u "java/lang/Object")] 113

def k0c0 : Code := { maxStack := 0, maxLocals := 1, code := object_method_1_code, exceptionTable := #[], attributes := #[] }
def k0m0 : Method := { name := "<init>", desc := "()V", sig := { parameters := [], returnType := none }, accessFlags := 1, code := some k0c0 }
/-- java/lang/Object -/
def k0 : Class := { plain "java/lang/Object" none with
  accessFlags := 33
  interfaces := #[]
  cf := some (fileOf pool0 8 #[] #[{ accessFlags := 1, nameIndex := 5, descriptorIndex := 6, attributes := #[] }] 33 0 #[] #[])
  fields := #[]
  methods := #[k0m0]
  instanceTypes := #[]
  staticTypes := #[]
  resolved := Array.replicate 124 none
  statics := none }

def pool1 : Array CpInfo := pool [(2, .class_ 4), (1, u "java/lang/Object"), (0, u "<init>"), (0, u "()V"), (0, .integer 55296), (0, .integer 56320), (0, .integer 56319), (0, .integer 57343), (0, .class_ 12), (0, u "java/lang/String"), (0, .methodref 11 14), (0, .nameAndType 5 15), (0, u "([C)V"), (0, .methodref 17 18), (0, .class_ 19), (0, .nameAndType 20 21), (0, u "com/example/coterie/coterie/job/JobIsWellFormedKeyPinLaw"), (0, u "pick"), (0, u "(I)C"), (0, .methodref 17 23), (0, .nameAndType 24 25), (0, u "shortKey"), (0, u "(ICCCC)Ljava/lang/String;"), (0, .methodref 17 27), (0, .nameAndType 28 29), (0, u "longKey"), (0, u "(CCCC)Ljava/lang/String;"), (0, .methodref 17 31), (0, .nameAndType 32 33), (0, u "pair"), (0, u "(CC)I"), (0, .methodref 35 36), (0, .class_ 37), (0, .nameAndType 38 39), (0, u "com/example/coterie/coterie/job/Job"), (0, u "isWellFormedKey"), (0, u "(Ljava/lang/String;)Z"), (3, u "law"), (0, u "(IIIII)Z")] 2

def k1m0 : Method := { name := "<init>", desc := "()V", sig := { parameters := [], returnType := none }, accessFlags := 1, code := none }
def k1c1 : Code := { maxStack := 3, maxLocals := 3, code := method_2_code, exceptionTable := #[], attributes := #[] }
def k1m1 : Method := { name := "pick", desc := "(I)C", sig := { parameters := [.int], returnType := some .char }, accessFlags := 10, code := some k1c1 }
def k1c2 : Code := { maxStack := 2, maxLocals := 4, code := method_3_code, exceptionTable := #[], attributes := #[] }
def k1m2 : Method := { name := "pair", desc := "(CC)I", sig := { parameters := [.char, .char], returnType := some .int }, accessFlags := 10, code := some k1c2 }
def k1c3 : Code := { maxStack := 6, maxLocals := 5, code := method_4_code, exceptionTable := #[], attributes := #[] }
def k1m3 : Method := { name := "shortKey", desc := "(ICCCC)Ljava/lang/String;", sig := { parameters := [.int, .char, .char, .char, .char], returnType := some (.object "java/lang/String") }, accessFlags := 10, code := some k1c3 }
def k1c4 : Code := { maxStack := 4, maxLocals := 6, code := method_5_code, exceptionTable := #[], attributes := #[] }
def k1m4 : Method := { name := "longKey", desc := "(CCCC)Ljava/lang/String;", sig := { parameters := [.char, .char, .char, .char], returnType := some (.object "java/lang/String") }, accessFlags := 10, code := some k1c4 }
def k1c5 : Code := { maxStack := 5, maxLocals := 13, code := code, exceptionTable := #[], attributes := #[] }
def k1m5 : Method := { name := "law", desc := "(IIIII)Z", sig := { parameters := [.int, .int, .int, .int, .int], returnType := some .boolean }, accessFlags := 9, code := some k1c5 }
/-- com/example/coterie/coterie/job/JobIsWellFormedKeyPinLaw -/
def k1 : Class := { plain "com/example/coterie/coterie/job/JobIsWellFormedKeyPinLaw" (some 0) with
  accessFlags := 49
  interfaces := #[]
  cf := some (fileOf pool1 17 #[] #[{ accessFlags := 1, nameIndex := 5, descriptorIndex := 6, attributes := #[] }, { accessFlags := 10, nameIndex := 20, descriptorIndex := 21, attributes := #[] }, { accessFlags := 10, nameIndex := 32, descriptorIndex := 33, attributes := #[] }, { accessFlags := 10, nameIndex := 24, descriptorIndex := 25, attributes := #[] }, { accessFlags := 10, nameIndex := 28, descriptorIndex := 29, attributes := #[] }, { accessFlags := 9, nameIndex := 43, descriptorIndex := 44, attributes := #[] }] 49 2 #[] #[])
  fields := #[]
  methods := #[k1m0, k1m1, k1m2, k1m3, k1m4, k1m5]
  instanceTypes := #[]
  staticTypes := #[]
  resolved := Array.replicate 47 none
  statics := none }

def pool2 : Array CpInfo := pool [(1, .class_ 2), (0, u "java/io/Serializable"), (0, .class_ 4), (0, u "java/lang/Object")] 2

/-- java/io/Serializable -/
def k2 : Class := { plain "java/io/Serializable" (some 0) with
  accessFlags := 1537
  interfaces := #[]
  cf := some (fileOf pool2 1 #[] #[] 1537 3 #[] #[])
  fields := #[]
  methods := #[]
  instanceTypes := #[]
  staticTypes := #[]
  resolved := Array.replicate 7 none
  statics := none }

def pool3 : Array CpInfo := pool [(1, .class_ 2), (0, u "java/lang/Comparable"), (0, .class_ 4), (0, u "java/lang/Object")] 7

/-- java/lang/Comparable -/
def k3 : Class := { plain "java/lang/Comparable" (some 0) with
  accessFlags := 1537
  interfaces := #[]
  cf := some (fileOf pool3 1 #[] #[] 1537 3 #[] #[])
  fields := #[]
  methods := #[]
  instanceTypes := #[]
  staticTypes := #[]
  resolved := Array.replicate 12 none
  statics := none }

def pool4 : Array CpInfo := pool [(2, .class_ 4), (1, u "java/lang/CharSequence"), (42, .class_ 48), (0, u "java/lang/CharSequence$1CodePointIterator"), (10, .class_ 60), (0, u "java/lang/CharSequence$1CharIterator"), (5, .class_ 67), (0, u "java/lang/Object")] 63

/-- java/lang/CharSequence -/
def k4 : Class := { plain "java/lang/CharSequence" (some 0) with
  accessFlags := 1537
  interfaces := #[]
  cf := some (fileOf pool4 2 #[.nestMembers #[47, 59]] #[] 1537 66 #[] #[])
  fields := #[]
  methods := #[]
  instanceTypes := #[]
  staticTypes := #[]
  resolved := Array.replicate 131 none
  statics := none }

def pool5 : Array CpInfo := pool [(1, .class_ 2), (0, u "java/lang/constant/Constable"), (0, .class_ 4), (0, u "java/lang/Object")] 6

/-- java/lang/constant/Constable -/
def k5 : Class := { plain "java/lang/constant/Constable" (some 0) with
  accessFlags := 1537
  interfaces := #[]
  cf := some (fileOf pool5 1 #[] #[] 1537 3 #[] #[])
  fields := #[]
  methods := #[]
  instanceTypes := #[]
  staticTypes := #[]
  resolved := Array.replicate 11 none
  statics := none }

def pool6 : Array CpInfo := pool [(1, .class_ 2), (0, u "java/lang/constant/ConstantDesc"), (0, .class_ 4), (0, u "java/lang/Object")] 32

/-- java/lang/constant/ConstantDesc -/
def k6 : Class := { plain "java/lang/constant/ConstantDesc" (some 0) with
  accessFlags := 1537
  interfaces := #[]
  cf := some (fileOf pool6 1 #[] #[] 1537 3 #[] #[])
  fields := #[]
  methods := #[]
  instanceTypes := #[]
  staticTypes := #[]
  resolved := Array.replicate 37 none
  statics := none }

def pool7 : Array CpInfo := pool [(1, .methodref 2 3), (0, .class_ 4), (0, .nameAndType 5 6), (0, u "java/lang/Object"), (0, u "<init>"), (0, u "()V"), (0, .string 8), (0, u ""), (0, .fieldref 10 11), (0, .class_ 12), (0, .nameAndType 13 14), (0, u "java/lang/String"), (0, u "value"), (0, u "[B"), (0, .fieldref 10 16), (0, .nameAndType 17 18), (0, u "coder"), (0, u "B"), (2, u "hash"), (0, u "I"), (2, u "hashIsZero"), (0, u "Z"), (0, .methodref 10 28), (0, .nameAndType 5 29), (0, u "([CIILjava/lang/Void;)V"), (7, u "(III)I"), (0, .fieldref 10 39), (0, .nameAndType 40 26), (0, u "COMPACT_STRINGS"), (1, .class_ 44), (1, u "java/lang/StringUTF16"), (0, u "compress"), (1, .methodref 42 48), (0, .nameAndType 49 50), (0, u "coderFromArrayLen"), (0, u "([BI)B"), (28, .class_ 81), (1, u "java/util/Objects"), (15, u "([BII)I"), (9, .class_ 109), (1, u "java/lang/StringLatin1"), (32, u "()Z"), (34, .methodref 42 178), (0, .nameAndType 45 179), (0, u "([CII)[B"), (154, u "()I"), (0, .methodref 10 336), (0, .nameAndType 17 337), (0, u "()B"), (154, .methodref 10 493), (0, .nameAndType 494 142), (0, u "isLatin1"), (10, .methodref 10 506), (0, .nameAndType 507 334), (0, u "length"), (3, .methodref 79 512), (0, .nameAndType 513 37), (0, u "checkFromToIndex"), (0, .methodref 42 515), (0, .nameAndType 516 97), (0, u "codePointCount"), (6, u "checkBoundsBeginEnd"), (0, u "(III)V"), (50, .class_ 576), (0, u "java/lang/CharSequence"), (22, u "CASE_INSENSITIVE_ORDER"), (0, u "Ljava/util/Comparator;"), (32, .methodref 10 634), (0, .nameAndType 635 636), (0, u "indexOf"), (0, u "(II)I"), (0, .methodref 107 638), (0, .nameAndType 635 639), (0, u "([BIII)I"), (0, .methodref 42 638), (51, u "isEmpty"), (72, u "(I)I"), (244, u "([C)V"), (42, .fieldref 1054 1055), (0, .class_ 1056), (0, .nameAndType 1057 1058), (0, u "jdk/internal/util/Preconditions"), (0, u "SIOOBE_FORMATTER"), (0, u "Ljava/util/function/BiFunction;"), (3, .methodref 1054 1063), (0, .nameAndType 513 1064), (0, u "(IIILjava/util/function/BiFunction;)I"), (36, u "serialPersistentFields"), (0, u "[Ljava/io/ObjectStreamField;"), (0, .class_ 1104), (0, u "java/lang/String$CaseInsensitiveComparator"), (1, .class_ 1107), (0, u "java/io/Serializable"), (0, .class_ 1109), (0, u "java/lang/Comparable"), (0, .class_ 1111), (0, u "java/lang/constant/Constable"), (0, .class_ 1113), (0, u "java/lang/constant/ConstantDesc"), (2, u "serialVersionUID"), (0, u "J"), (3, u "REPL"), (0, u "C"), (2, u "LATIN1"), (1, u "UTF16")] 323

def k7m0 : Method := { name := "<init>", desc := "()V", sig := { parameters := [], returnType := none }, accessFlags := 1, code := none }
def k7c1 : Code := { maxStack := 5, maxLocals := 2, code := jdk_42_method_3_code, exceptionTable := #[], attributes := #[] }
def k7m1 : Method := { name := "<init>", desc := "([C)V", sig := { parameters := [(.array .char)], returnType := none }, accessFlags := 1, code := some k7c1 }
def k7c2 : Code := { maxStack := 2, maxLocals := 1, code := jdk_42_method_54_code, exceptionTable := #[], attributes := #[] }
def k7m2 : Method := { name := "length", desc := "()I", sig := { parameters := [], returnType := some .int }, accessFlags := 1, code := some k7c2 }
def k7c3 : Code := { maxStack := 1, maxLocals := 1, code := jdk_42_method_55_code, exceptionTable := #[], attributes := #[] }
def k7m3 : Method := { name := "isEmpty", desc := "()Z", sig := { parameters := [], returnType := some .boolean }, accessFlags := 1, code := some k7c3 }
def k7c4 : Code := { maxStack := 3, maxLocals := 3, code := jdk_42_method_59_code, exceptionTable := #[], attributes := #[] }
def k7m4 : Method := { name := "codePointCount", desc := "(II)I", sig := { parameters := [.int, .int], returnType := some .int }, accessFlags := 1, code := some k7c4 }
def k7c5 : Code := { maxStack := 3, maxLocals := 2, code := jdk_42_method_79_code, exceptionTable := #[], attributes := #[] }
def k7m5 : Method := { name := "indexOf", desc := "(I)I", sig := { parameters := [.int], returnType := some .int }, accessFlags := 1, code := some k7c5 }
def k7c6 : Code := { maxStack := 4, maxLocals := 3, code := jdk_42_method_80_code, exceptionTable := #[], attributes := #[] }
def k7m6 : Method := { name := "indexOf", desc := "(II)I", sig := { parameters := [.int, .int], returnType := some .int }, accessFlags := 1, code := some k7c6 }
def k7c7 : Code := { maxStack := 4, maxLocals := 6, code := jdk_42_method_149_code, exceptionTable := #[], attributes := #[] }
def k7m7 : Method := { name := "<init>", desc := "([CIILjava/lang/Void;)V", sig := { parameters := [(.array .char), .int, .int, (.object "java/lang/Void")], returnType := none }, accessFlags := 2, code := some k7c7 }
def k7c8 : Code := { maxStack := 1, maxLocals := 1, code := jdk_42_method_152_code, exceptionTable := #[], attributes := #[] }
def k7m8 : Method := { name := "coder", desc := "()B", sig := { parameters := [], returnType := some .byte }, accessFlags := 0, code := some k7c8 }
def k7c9 : Code := { maxStack := 1, maxLocals := 1, code := jdk_42_method_154_code, exceptionTable := #[], attributes := #[] }
def k7m9 : Method := { name := "isLatin1", desc := "()Z", sig := { parameters := [], returnType := some .boolean }, accessFlags := 0, code := some k7c9 }
def k7c10 : Code := { maxStack := 4, maxLocals := 3, code := jdk_42_method_158_code, exceptionTable := #[], attributes := #[] }
def k7m10 : Method := { name := "checkBoundsBeginEnd", desc := "(III)V", sig := { parameters := [.int, .int, .int], returnType := none }, accessFlags := 8, code := some k7c10 }
/-- java/lang/String -/
def k7 : Class := { plain "java/lang/String" (some 0) with
  accessFlags := 49
  interfaces := #[2, 3, 4, 5, 6]
  cf := some (fileOf pool7 10 #[.nestMembers #[1103]] #[{ accessFlags := 1, nameIndex := 5, descriptorIndex := 6, attributes := #[] }, { accessFlags := 1, nameIndex := 5, descriptorIndex := 1010, attributes := #[] }, { accessFlags := 1, nameIndex := 507, descriptorIndex := 334, attributes := #[] }, { accessFlags := 1, nameIndex := 692, descriptorIndex := 142, attributes := #[] }, { accessFlags := 1, nameIndex := 516, descriptorIndex := 636, attributes := #[] }, { accessFlags := 1, nameIndex := 635, descriptorIndex := 765, attributes := #[] }, { accessFlags := 1, nameIndex := 635, descriptorIndex := 636, attributes := #[] }, { accessFlags := 2, nameIndex := 5, descriptorIndex := 29, attributes := #[] }, { accessFlags := 0, nameIndex := 17, descriptorIndex := 337, attributes := #[] }, { accessFlags := 0, nameIndex := 494, descriptorIndex := 142, attributes := #[] }, { accessFlags := 8, nameIndex := 523, descriptorIndex := 524, attributes := #[] }] 49 2 #[1106, 1108, 575, 1110, 1112] #[{ accessFlags := 18, nameIndex := 13, descriptorIndex := 14, attributes := #[] }, { accessFlags := 18, nameIndex := 17, descriptorIndex := 18, attributes := #[] }, { accessFlags := 2, nameIndex := 21, descriptorIndex := 22, attributes := #[] }, { accessFlags := 2, nameIndex := 25, descriptorIndex := 26, attributes := #[] }, { accessFlags := 26, nameIndex := 1116, descriptorIndex := 1117, attributes := #[] }, { accessFlags := 24, nameIndex := 40, descriptorIndex := 26, attributes := #[] }, { accessFlags := 26, nameIndex := 1101, descriptorIndex := 1102, attributes := #[] }, { accessFlags := 26, nameIndex := 1121, descriptorIndex := 1122, attributes := #[] }, { accessFlags := 25, nameIndex := 599, descriptorIndex := 600, attributes := #[] }, { accessFlags := 24, nameIndex := 1125, descriptorIndex := 18, attributes := #[] }, { accessFlags := 24, nameIndex := 1127, descriptorIndex := 18, attributes := #[] }])
  fields := #[{ name := "value", type := (.array .byte), accessFlags := 18, slot := 0, constantValue := 0 }, { name := "coder", type := .byte, accessFlags := 18, slot := 1, constantValue := 0 }, { name := "hash", type := .int, accessFlags := 2, slot := 2, constantValue := 0 }, { name := "hashIsZero", type := .boolean, accessFlags := 2, slot := 3, constantValue := 0 }, { name := "serialVersionUID", type := .long, accessFlags := 26, slot := 0, constantValue := 0 }, { name := "COMPACT_STRINGS", type := .boolean, accessFlags := 24, slot := 1, constantValue := 0 }, { name := "serialPersistentFields", type := (.array (.object "java/io/ObjectStreamField")), accessFlags := 26, slot := 2, constantValue := 0 }, { name := "REPL", type := .char, accessFlags := 26, slot := 3, constantValue := 0 }, { name := "CASE_INSENSITIVE_ORDER", type := (.object "java/util/Comparator"), accessFlags := 25, slot := 4, constantValue := 0 }, { name := "LATIN1", type := .byte, accessFlags := 24, slot := 5, constantValue := 0 }, { name := "UTF16", type := .byte, accessFlags := 24, slot := 6, constantValue := 0 }]
  methods := #[k7m0, k7m1, k7m2, k7m3, k7m4, k7m5, k7m6, k7m7, k7m8, k7m9, k7m10]
  instanceTypes := #[(.array .byte), .byte, .int, .boolean]
  staticTypes := #[.long, .boolean, (.array (.object "java/io/ObjectStreamField")), .char, (.object "java/util/Comparator"), .byte, .byte]
  resolved := Array.replicate 1451 none
  statics := some 0 }

def pool8 : Array CpInfo := pool [(1, .class_ 2), (0, u "com/example/coterie/coterie/job/Job"), (1, .class_ 6), (1, u "java/lang/Object"), (4, u "id"), (0, u "Ljava/lang/String;"), (2, u "state"), (0, u "Lcom/example/coterie/coterie/job/JobState;"), (2, u "node"), (8, u "command"), (0, u "Ljava/util/List;"), (2, u "nodes"), (2, u "key"), (2, u "exitCode"), (0, u "Ljava/lang/Integer;"), (2, u "error"), (2, u "submittedAt"), (0, u "Ljava/time/Instant;"), (2, u "startedAt"), (2, u "finishedAt"), (27, .class_ 82), (1, u "java/lang/String"), (4, .methodref 80 88), (0, .nameAndType 89 90), (0, u "isEmpty"), (0, u "()Z"), (0, .methodref 80 92), (0, .nameAndType 93 94), (0, u "length"), (0, u "()I"), (0, .methodref 80 96), (0, .nameAndType 97 98), (0, u "codePointCount"), (0, u "(II)I"), (0, .methodref 80 100), (0, .nameAndType 101 102), (0, u "indexOf"), (0, u "(I)I"), (36, u "MAX_KEY_LENGTH"), (0, u "I"), (2, u "KEY_RULE"), (11, u "(Ljava/lang/String;)Z"), (1, u "isWellFormedKey")] 28

def k8c0 : Code := { maxStack := 3, maxLocals := 1, code := prog_13_method_4_code, exceptionTable := #[], attributes := #[] }
def k8m0 : Method := { name := "isWellFormedKey", desc := "(Ljava/lang/String;)Z", sig := { parameters := [(.object "java/lang/String")], returnType := some .boolean }, accessFlags := 9, code := some k8c0 }
/-- com/example/coterie/coterie/job/Job -/
def k8 : Class := { plain "com/example/coterie/coterie/job/Job" (some 0) with
  accessFlags := 49
  interfaces := #[]
  cf := some (fileOf pool8 1 #[] #[{ accessFlags := 9, nameIndex := 157, descriptorIndex := 155, attributes := #[] }] 49 4 #[] #[{ accessFlags := 25, nameIndex := 139, descriptorIndex := 140, attributes := #[] }, { accessFlags := 25, nameIndex := 143, descriptorIndex := 12, attributes := #[] }, { accessFlags := 18, nameIndex := 11, descriptorIndex := 12, attributes := #[] }, { accessFlags := 18, nameIndex := 15, descriptorIndex := 16, attributes := #[] }, { accessFlags := 18, nameIndex := 19, descriptorIndex := 12, attributes := #[] }, { accessFlags := 18, nameIndex := 28, descriptorIndex := 29, attributes := #[] }, { accessFlags := 18, nameIndex := 32, descriptorIndex := 29, attributes := #[] }, { accessFlags := 18, nameIndex := 35, descriptorIndex := 12, attributes := #[] }, { accessFlags := 18, nameIndex := 38, descriptorIndex := 39, attributes := #[] }, { accessFlags := 18, nameIndex := 42, descriptorIndex := 12, attributes := #[] }, { accessFlags := 18, nameIndex := 45, descriptorIndex := 46, attributes := #[] }, { accessFlags := 18, nameIndex := 49, descriptorIndex := 46, attributes := #[] }, { accessFlags := 18, nameIndex := 52, descriptorIndex := 46, attributes := #[] }])
  fields := #[{ name := "MAX_KEY_LENGTH", type := .int, accessFlags := 25, slot := 0, constantValue := 0 }, { name := "KEY_RULE", type := (.object "java/lang/String"), accessFlags := 25, slot := 1, constantValue := 0 }, { name := "id", type := (.object "java/lang/String"), accessFlags := 18, slot := 0, constantValue := 0 }, { name := "state", type := (.object "com/example/coterie/coterie/job/JobState"), accessFlags := 18, slot := 1, constantValue := 0 }, { name := "node", type := (.object "java/lang/String"), accessFlags := 18, slot := 2, constantValue := 0 }, { name := "command", type := (.object "java/util/List"), accessFlags := 18, slot := 3, constantValue := 0 }, { name := "nodes", type := (.object "java/util/List"), accessFlags := 18, slot := 4, constantValue := 0 }, { name := "key", type := (.object "java/lang/String"), accessFlags := 18, slot := 5, constantValue := 0 }, { name := "exitCode", type := (.object "java/lang/Integer"), accessFlags := 18, slot := 6, constantValue := 0 }, { name := "error", type := (.object "java/lang/String"), accessFlags := 18, slot := 7, constantValue := 0 }, { name := "submittedAt", type := (.object "java/time/Instant"), accessFlags := 18, slot := 8, constantValue := 0 }, { name := "startedAt", type := (.object "java/time/Instant"), accessFlags := 18, slot := 9, constantValue := 0 }, { name := "finishedAt", type := (.object "java/time/Instant"), accessFlags := 18, slot := 10, constantValue := 0 }]
  methods := #[k8m0]
  instanceTypes := #[(.object "java/lang/String"), (.object "com/example/coterie/coterie/job/JobState"), (.object "java/lang/String"), (.object "java/util/List"), (.object "java/util/List"), (.object "java/lang/String"), (.object "java/lang/Integer"), (.object "java/lang/String"), (.object "java/time/Instant"), (.object "java/time/Instant"), (.object "java/time/Instant")]
  staticTypes := #[.int, (.object "java/lang/String")]
  resolved := Array.replicate 186 none
  statics := none }

def pool9 : Array CpInfo := pool [(3, .class_ 4), (0, u "java/lang/String"), (1, .class_ 8), (1, u "java/lang/Object"), (0, u "<init>"), (0, u "()V"), (0, .methodref 12 13), (0, .class_ 14), (0, .nameAndType 15 16), (0, u "java/lang/StringUTF16"), (0, u "newBytesLength"), (0, u "(I)I"), (3, .integer 1073741823), (23, .fieldref 12 45), (0, .nameAndType 46 47), (0, u "$assertionsDisabled"), (0, u "Z"), (0, .methodref 12 49), (0, .nameAndType 50 51), (0, u "length"), (0, u "([B)I"), (7, .fieldref 12 60), (0, .nameAndType 61 62), (0, u "HI_BYTE_SHIFT"), (0, u "I"), (0, .fieldref 12 64), (0, .nameAndType 65 62), (0, u "LO_BYTE_SHIFT"), (5, .methodref 12 72), (0, .nameAndType 73 74), (0, u "getChar"), (0, u "([BI)C"), (0, .methodref 76 77), (0, .class_ 78), (0, .nameAndType 79 80), (0, u "java/lang/Character"), (0, u "isHighSurrogate"), (0, u "(C)Z"), (0, .methodref 76 82), (0, .nameAndType 83 80), (0, u "isLowSurrogate"), (7, u "([BIIZ)I"), (4, .methodref 12 97), (0, .nameAndType 98 99), (0, u "checkBoundsBeginEnd"), (0, u "(II[B)V"), (0, .methodref 12 101), (0, .nameAndType 102 91), (0, u "codePointCount"), (4, .methodref 12 108), (0, .nameAndType 109 110), (0, u "newBytesFor"), (0, u "(I)[B"), (0, .methodref 12 112), (0, .nameAndType 113 114), (0, u "putChar"), (0, u "([BII)V"), (0, .methodref 12 116), (0, .nameAndType 117 118), (0, u "compress"), (0, u "([CI[BII)I"), (0, .methodref 12 120), (0, .nameAndType 121 122), (0, u "toBytes"), (0, u "([CII)[B"), (60, .methodref 184 185), (0, .class_ 186), (0, .nameAndType 187 188), (0, u "java/lang/Math"), (0, u "min"), (0, u "(II)I"), (35, .methodref 184 225), (0, .nameAndType 226 188), (0, u "max"), (0, .integer 65536), (0, .methodref 12 229), (0, .nameAndType 230 231), (0, u "indexOfChar"), (0, u "([BIII)I"), (9, .methodref 3 242), (0, .nameAndType 98 243), (0, u "(III)V"), (0, .methodref 12 245), (0, .nameAndType 246 231), (0, u "indexOfCharUnsafe"), (3, u "([BII)I"), (10, u "coderFromArrayLen"), (0, u "([BI)B"), (5, u "indexOf"), (100, .class_ 371), (1, u "java/lang/StringUTF16$LinesSpliterator"), (58, u "MAX_LENGTH"), (196, .class_ 628), (0, u "java/lang/StringUTF16$CodePointsSpliterator"), (0, .class_ 630), (0, u "java/lang/StringUTF16$CharsSpliterator")] 4

def k9m0 : Method := { name := "<init>", desc := "()V", sig := { parameters := [], returnType := none }, accessFlags := 0, code := none }
def k9c1 : Code := { maxStack := 1, maxLocals := 1, code := jdk_52_method_2_code, exceptionTable := #[], attributes := #[] }
def k9m1 : Method := { name := "newBytesFor", desc := "(I)[B", sig := { parameters := [.int], returnType := some (.array .byte) }, accessFlags := 9, code := some k9c1 }
def k9c2 : Code := { maxStack := 4, maxLocals := 1, code := jdk_52_method_3_code, exceptionTable := #[], attributes := #[] }
def k9m2 : Method := { name := "newBytesLength", desc := "(I)I", sig := { parameters := [.int], returnType := some .int }, accessFlags := 9, code := some k9c2 }
def k9c3 : Code := { maxStack := 4, maxLocals := 3, code := jdk_52_method_4_code, exceptionTable := #[], attributes := #[] }
def k9m3 : Method := { name := "putChar", desc := "([BII)V", sig := { parameters := [(.array .byte), .int, .int], returnType := none }, accessFlags := 8, code := some k9c3 }
def k9c4 : Code := { maxStack := 3, maxLocals := 2, code := jdk_52_method_5_code, exceptionTable := #[], attributes := #[] }
def k9m4 : Method := { name := "getChar", desc := "([BI)C", sig := { parameters := [(.array .byte), .int], returnType := some .char }, accessFlags := 8, code := some k9c4 }
def k9c5 : Code := { maxStack := 2, maxLocals := 1, code := jdk_52_method_6_code, exceptionTable := #[], attributes := #[] }
def k9m5 : Method := { name := "length", desc := "([B)I", sig := { parameters := [(.array .byte)], returnType := some .int }, accessFlags := 9, code := some k9c5 }
def k9c6 : Code := { maxStack := 3, maxLocals := 6, code := jdk_52_method_11_code, exceptionTable := #[], attributes := #[] }
def k9m6 : Method := { name := "codePointCount", desc := "([BIIZ)I", sig := { parameters := [(.array .byte), .int, .int, .boolean], returnType := some .int }, accessFlags := 10, code := some k9c6 }
def k9c7 : Code := { maxStack := 4, maxLocals := 3, code := jdk_52_method_12_code, exceptionTable := #[], attributes := #[] }
def k9m7 : Method := { name := "codePointCount", desc := "([BII)I", sig := { parameters := [(.array .byte), .int, .int], returnType := some .int }, accessFlags := 9, code := some k9c7 }
def k9c8 : Code := { maxStack := 4, maxLocals := 5, code := jdk_52_method_14_code, exceptionTable := #[], attributes := #[] }
def k9m8 : Method := { name := "toBytes", desc := "([CII)[B", sig := { parameters := [(.array .char), .int, .int], returnType := some (.array .byte) }, accessFlags := 9, code := some k9c8 }
def k9c9 : Code := { maxStack := 2, maxLocals := 2, code := jdk_52_method_15_code, exceptionTable := #[], attributes := #[] }
def k9m9 : Method := { name := "coderFromArrayLen", desc := "([BI)B", sig := { parameters := [(.array .byte), .int], returnType := some .byte }, accessFlags := 8, code := some k9c9 }
def k9c10 : Code := { maxStack := 5, maxLocals := 6, code := jdk_52_method_16_code, exceptionTable := #[], attributes := #[] }
def k9m10 : Method := { name := "compress", desc := "([CII)[B", sig := { parameters := [(.array .char), .int, .int], returnType := some (.array .byte) }, accessFlags := 9, code := some k9c10 }
def k9c11 : Code := { maxStack := 3, maxLocals := 7, code := jdk_52_method_21_code, exceptionTable := #[], attributes := #[] }
def k9m11 : Method := { name := "compress", desc := "([CI[BII)I", sig := { parameters := [(.array .char), .int, (.array .byte), .int, .int], returnType := some .int }, accessFlags := 9, code := some k9c11 }
def k9c12 : Code := { maxStack := 4, maxLocals := 4, code := jdk_52_method_40_code, exceptionTable := #[], attributes := #[] }
def k9m12 : Method := { name := "indexOf", desc := "([BIII)I", sig := { parameters := [(.array .byte), .int, .int, .int], returnType := some .int }, accessFlags := 9, code := some k9c12 }
def k9c13 : Code := { maxStack := 4, maxLocals := 4, code := jdk_52_method_47_code, exceptionTable := #[], attributes := #[] }
def k9m13 : Method := { name := "indexOfChar", desc := "([BIII)I", sig := { parameters := [(.array .byte), .int, .int, .int], returnType := some .int }, accessFlags := 10, code := some k9c13 }
def k9c14 : Code := { maxStack := 2, maxLocals := 5, code := jdk_52_method_48_code, exceptionTable := #[], attributes := #[] }
def k9m14 : Method := { name := "indexOfCharUnsafe", desc := "([BIII)I", sig := { parameters := [(.array .byte), .int, .int, .int], returnType := some .int }, accessFlags := 10, code := some k9c14 }
def k9c15 : Code := { maxStack := 3, maxLocals := 3, code := jdk_52_method_93_code, exceptionTable := #[], attributes := #[] }
def k9m15 : Method := { name := "checkBoundsBeginEnd", desc := "(II[B)V", sig := { parameters := [.int, .int, (.array .byte)], returnType := none }, accessFlags := 9, code := some k9c15 }
/-- java/lang/StringUTF16 -/
def k9 : Class := { plain "java/lang/StringUTF16" (some 0) with
  accessFlags := 48
  interfaces := #[]
  cf := some (fileOf pool9 12 #[.nestMembers #[627, 629, 369]] #[{ accessFlags := 0, nameIndex := 9, descriptorIndex := 10, attributes := #[] }, { accessFlags := 9, nameIndex := 109, descriptorIndex := 110, attributes := #[] }, { accessFlags := 9, nameIndex := 15, descriptorIndex := 16, attributes := #[] }, { accessFlags := 8, nameIndex := 113, descriptorIndex := 114, attributes := #[] }, { accessFlags := 8, nameIndex := 73, descriptorIndex := 74, attributes := #[] }, { accessFlags := 9, nameIndex := 50, descriptorIndex := 51, attributes := #[] }, { accessFlags := 10, nameIndex := 102, descriptorIndex := 91, attributes := #[] }, { accessFlags := 9, nameIndex := 102, descriptorIndex := 250, attributes := #[] }, { accessFlags := 9, nameIndex := 121, descriptorIndex := 122, attributes := #[] }, { accessFlags := 8, nameIndex := 261, descriptorIndex := 262, attributes := #[] }, { accessFlags := 9, nameIndex := 117, descriptorIndex := 122, attributes := #[] }, { accessFlags := 9, nameIndex := 117, descriptorIndex := 118, attributes := #[] }, { accessFlags := 9, nameIndex := 268, descriptorIndex := 231, attributes := #[] }, { accessFlags := 10, nameIndex := 230, descriptorIndex := 231, attributes := #[] }, { accessFlags := 10, nameIndex := 246, descriptorIndex := 231, attributes := #[] }, { accessFlags := 9, nameIndex := 98, descriptorIndex := 99, attributes := #[] }] 48 6 #[] #[{ accessFlags := 26, nameIndex := 61, descriptorIndex := 62, attributes := #[] }, { accessFlags := 26, nameIndex := 65, descriptorIndex := 62, attributes := #[] }, { accessFlags := 24, nameIndex := 430, descriptorIndex := 62, attributes := #[] }, { accessFlags := 4120, nameIndex := 46, descriptorIndex := 47, attributes := #[] }])
  fields := #[{ name := "HI_BYTE_SHIFT", type := .int, accessFlags := 26, slot := 0, constantValue := 0 }, { name := "LO_BYTE_SHIFT", type := .int, accessFlags := 26, slot := 1, constantValue := 0 }, { name := "MAX_LENGTH", type := .int, accessFlags := 24, slot := 2, constantValue := 0 }, { name := "$assertionsDisabled", type := .boolean, accessFlags := 4120, slot := 3, constantValue := 0 }]
  methods := #[k9m0, k9m1, k9m2, k9m3, k9m4, k9m5, k9m6, k9m7, k9m8, k9m9, k9m10, k9m11, k9m12, k9m13, k9m14, k9m15]
  instanceTypes := #[]
  staticTypes := #[.int, .int, .int, .boolean]
  resolved := Array.replicate 635 none
  statics := some 1 }

def pool10 : Array CpInfo := pool [(2, .class_ 4), (1, u "java/lang/Object"), (0, u "<init>"), (0, u "()V"), (35, .class_ 44), (1, u "java/util/Objects"), (61, .class_ 108), (1, u "jdk/internal/util/Preconditions"), (2, .methodref 106 112), (0, .nameAndType 113 114), (0, u "checkFromToIndex"), (0, u "(IIILjava/util/function/BiFunction;)I"), (60, u "(III)I")] 8

def k10m0 : Method := { name := "<init>", desc := "()V", sig := { parameters := [], returnType := none }, accessFlags := 2, code := none }
def k10c1 : Code := { maxStack := 4, maxLocals := 3, code := jdk_31_method_18_code, exceptionTable := #[], attributes := #[] }
def k10m1 : Method := { name := "checkFromToIndex", desc := "(III)I", sig := { parameters := [.int, .int, .int], returnType := some .int }, accessFlags := 9, code := some k10c1 }
/-- java/util/Objects -/
def k10 : Class := { plain "java/util/Objects" (some 0) with
  accessFlags := 49
  interfaces := #[]
  cf := some (fileOf pool10 42 #[] #[{ accessFlags := 2, nameIndex := 5, descriptorIndex := 6, attributes := #[] }, { accessFlags := 9, nameIndex := 113, descriptorIndex := 175, attributes := #[] }] 49 2 #[] #[])
  fields := #[]
  methods := #[k10m0, k10m1]
  instanceTypes := #[]
  staticTypes := #[]
  resolved := Array.replicate 184 none
  statics := none }

def pool11 : Array CpInfo := pool [(2, .class_ 4), (1, u "java/lang/Object"), (0, u "<init>"), (0, u "()V"), (17, .class_ 26), (1, u "jdk/internal/util/Preconditions"), (20, u "checkFromToIndex"), (7, .class_ 56), (0, u "jdk/internal/util/Preconditions$4"), (57, .class_ 115), (0, u "jdk/internal/util/Preconditions$1"), (7, u "SIOOBE_FORMATTER"), (0, u "Ljava/util/function/BiFunction;"), (0, .class_ 126), (0, u "jdk/internal/util/Preconditions$2"), (3, u "AIOOBE_FORMATTER"), (0, .class_ 132), (0, u "jdk/internal/util/Preconditions$3"), (3, u "IOOBE_FORMATTER"), (46, u "(IIILjava/util/function/BiFunction;)I")] 10

def k11m0 : Method := { name := "<init>", desc := "()V", sig := { parameters := [], returnType := none }, accessFlags := 1, code := none }
def k11c1 : Code := { maxStack := 4, maxLocals := 4, code := jdk_41_method_12_code, exceptionTable := #[], attributes := #[] }
def k11m1 : Method := { name := "checkFromToIndex", desc := "(IIILjava/util/function/BiFunction;)I", sig := { parameters := [.int, .int, .int, (.object "java/util/function/BiFunction")], returnType := some .int }, accessFlags := 9, code := some k11c1 }
/-- jdk/internal/util/Preconditions -/
def k11 : Class := { plain "jdk/internal/util/Preconditions" (some 0) with
  accessFlags := 33
  interfaces := #[]
  cf := some (fileOf pool11 24 #[.nestMembers #[55, 131, 125, 114]] #[{ accessFlags := 1, nameIndex := 5, descriptorIndex := 6, attributes := #[] }, { accessFlags := 9, nameIndex := 47, descriptorIndex := 183, attributes := #[] }] 33 2 #[] #[{ accessFlags := 25, nameIndex := 123, descriptorIndex := 124, attributes := #[] }, { accessFlags := 25, nameIndex := 130, descriptorIndex := 124, attributes := #[] }, { accessFlags := 25, nameIndex := 136, descriptorIndex := 124, attributes := #[] }])
  fields := #[{ name := "SIOOBE_FORMATTER", type := (.object "java/util/function/BiFunction"), accessFlags := 25, slot := 0, constantValue := 0 }, { name := "AIOOBE_FORMATTER", type := (.object "java/util/function/BiFunction"), accessFlags := 25, slot := 1, constantValue := 0 }, { name := "IOOBE_FORMATTER", type := (.object "java/util/function/BiFunction"), accessFlags := 25, slot := 2, constantValue := 0 }]
  methods := #[k11m0, k11m1]
  instanceTypes := #[]
  staticTypes := #[(.object "java/util/function/BiFunction"), (.object "java/util/function/BiFunction"), (.object "java/util/function/BiFunction")]
  resolved := Array.replicate 194 none
  statics := some 2 }

def pool12 : Array CpInfo := pool [(1, .class_ 2), (0, u "java/lang/Character"), (18, u "value"), (0, u "C"), (19, .class_ 44), (1, u "java/lang/Object"), (3, .class_ 50), (1, u "java/lang/Character$CharacterCache"), (24, .integer 55296), (0, .integer 56320), (0, .integer 57344), (2, u "isHighSurrogate"), (0, u "(C)Z"), (2, u "isLowSurrogate"), (199, u "$assertionsDisabled"), (0, u "Z"), (21, .class_ 309), (1, u "java/lang/Character$UnicodeBlock"), (73, u "TYPE"), (0, u "Ljava/lang/Class;"), (0, .class_ 386), (0, u "java/io/Serializable"), (0, .class_ 388), (0, u "java/lang/Comparable"), (0, .class_ 390), (0, u "java/lang/constant/Constable"), (0, u "MIN_RADIX"), (0, u "I"), (2, u "MAX_RADIX"), (1, u "MIN_VALUE"), (1, u "MAX_VALUE"), (3, u "UNASSIGNED"), (0, u "B"), (0, u "UPPERCASE_LETTER"), (1, u "LOWERCASE_LETTER"), (0, u "TITLECASE_LETTER"), (1, u "MODIFIER_LETTER"), (1, u "OTHER_LETTER"), (1, u "NON_SPACING_MARK"), (1, u "ENCLOSING_MARK"), (1, u "COMBINING_SPACING_MARK"), (1, u "DECIMAL_DIGIT_NUMBER"), (1, u "LETTER_NUMBER"), (1, u "OTHER_NUMBER"), (1, u "SPACE_SEPARATOR"), (1, u "LINE_SEPARATOR"), (1, u "PARAGRAPH_SEPARATOR"), (1, u "CONTROL"), (1, u "FORMAT"), (1, u "PRIVATE_USE"), (1, u "SURROGATE"), (1, u "DASH_PUNCTUATION"), (1, u "START_PUNCTUATION"), (1, u "END_PUNCTUATION"), (1, u "CONNECTOR_PUNCTUATION"), (1, u "OTHER_PUNCTUATION"), (1, u "MATH_SYMBOL"), (1, u "CURRENCY_SYMBOL"), (1, u "MODIFIER_SYMBOL"), (1, u "OTHER_SYMBOL"), (1, u "INITIAL_QUOTE_PUNCTUATION"), (1, u "FINAL_QUOTE_PUNCTUATION"), (1, u "ERROR"), (1, u "DIRECTIONALITY_UNDEFINED"), (0, u "DIRECTIONALITY_LEFT_TO_RIGHT"), (0, u "DIRECTIONALITY_RIGHT_TO_LEFT"), (0, u "DIRECTIONALITY_RIGHT_TO_LEFT_ARABIC"), (0, u "DIRECTIONALITY_EUROPEAN_NUMBER"), (0, u "DIRECTIONALITY_EUROPEAN_NUMBER_SEPARATOR"), (0, u "DIRECTIONALITY_EUROPEAN_NUMBER_TERMINATOR"), (0, u "DIRECTIONALITY_ARABIC_NUMBER"), (0, u "DIRECTIONALITY_COMMON_NUMBER_SEPARATOR"), (0, u "DIRECTIONALITY_NONSPACING_MARK"), (0, u "DIRECTIONALITY_BOUNDARY_NEUTRAL"), (0, u "DIRECTIONALITY_PARAGRAPH_SEPARATOR"), (0, u "DIRECTIONALITY_SEGMENT_SEPARATOR"), (0, u "DIRECTIONALITY_WHITESPACE"), (0, u "DIRECTIONALITY_OTHER_NEUTRALS"), (0, u "DIRECTIONALITY_LEFT_TO_RIGHT_EMBEDDING"), (0, u "DIRECTIONALITY_LEFT_TO_RIGHT_OVERRIDE"), (0, u "DIRECTIONALITY_RIGHT_TO_LEFT_EMBEDDING"), (0, u "DIRECTIONALITY_RIGHT_TO_LEFT_OVERRIDE"), (1, u "DIRECTIONALITY_POP_DIRECTIONAL_FORMAT"), (0, u "DIRECTIONALITY_LEFT_TO_RIGHT_ISOLATE"), (0, u "DIRECTIONALITY_RIGHT_TO_LEFT_ISOLATE"), (0, u "DIRECTIONALITY_FIRST_STRONG_ISOLATE"), (0, u "DIRECTIONALITY_POP_DIRECTIONAL_ISOLATE"), (0, u "MIN_HIGH_SURROGATE"), (0, u "MAX_HIGH_SURROGATE"), (1, u "MIN_LOW_SURROGATE"), (0, u "MAX_LOW_SURROGATE"), (1, u "MIN_SURROGATE"), (0, u "MAX_SURROGATE"), (0, u "MIN_SUPPLEMENTARY_CODE_POINT"), (0, u "MIN_CODE_POINT"), (0, u "MAX_CODE_POINT"), (1, u "serialVersionUID"), (0, u "J"), (2, u "SIZE"), (0, u "BYTES"), (88, .class_ 596), (0, u "java/lang/Character$UnicodeScript"), (0, .class_ 598), (0, u "java/lang/Character$Subset")] 5

def k12c0 : Code := { maxStack := 2, maxLocals := 1, code := jdk_89_method_14_code, exceptionTable := #[], attributes := #[] }
def k12m0 : Method := { name := "isHighSurrogate", desc := "(C)Z", sig := { parameters := [.char], returnType := some .boolean }, accessFlags := 9, code := some k12c0 }
def k12c1 : Code := { maxStack := 2, maxLocals := 1, code := jdk_89_method_15_code, exceptionTable := #[], attributes := #[] }
def k12m1 : Method := { name := "isLowSurrogate", desc := "(C)Z", sig := { parameters := [.char], returnType := some .boolean }, accessFlags := 9, code := some k12c1 }
/-- java/lang/Character -/
def k12 : Class := { plain "java/lang/Character" (some 0) with
  accessFlags := 49
  interfaces := #[2, 3, 5]
  cf := some (fileOf pool12 1 #[.nestMembers #[48, 595, 307, 597]] #[{ accessFlags := 9, nameIndex := 80, descriptorIndex := 81, attributes := #[] }, { accessFlags := 9, nameIndex := 84, descriptorIndex := 81, attributes := #[] }] 49 42 #[385, 387, 389] #[{ accessFlags := 25, nameIndex := 391, descriptorIndex := 392, attributes := #[] }, { accessFlags := 25, nameIndex := 395, descriptorIndex := 392, attributes := #[] }, { accessFlags := 25, nameIndex := 397, descriptorIndex := 22, attributes := #[] }, { accessFlags := 25, nameIndex := 399, descriptorIndex := 22, attributes := #[] }, { accessFlags := 25, nameIndex := 383, descriptorIndex := 384, attributes := #[] }, { accessFlags := 25, nameIndex := 403, descriptorIndex := 404, attributes := #[] }, { accessFlags := 25, nameIndex := 405, descriptorIndex := 404, attributes := #[] }, { accessFlags := 25, nameIndex := 407, descriptorIndex := 404, attributes := #[] }, { accessFlags := 25, nameIndex := 408, descriptorIndex := 404, attributes := #[] }, { accessFlags := 25, nameIndex := 410, descriptorIndex := 404, attributes := #[] }, { accessFlags := 25, nameIndex := 412, descriptorIndex := 404, attributes := #[] }, { accessFlags := 25, nameIndex := 414, descriptorIndex := 404, attributes := #[] }, { accessFlags := 25, nameIndex := 416, descriptorIndex := 404, attributes := #[] }, { accessFlags := 25, nameIndex := 418, descriptorIndex := 404, attributes := #[] }, { accessFlags := 25, nameIndex := 420, descriptorIndex := 404, attributes := #[] }, { accessFlags := 25, nameIndex := 422, descriptorIndex := 404, attributes := #[] }, { accessFlags := 25, nameIndex := 424, descriptorIndex := 404, attributes := #[] }, { accessFlags := 25, nameIndex := 426, descriptorIndex := 404, attributes := #[] }, { accessFlags := 25, nameIndex := 428, descriptorIndex := 404, attributes := #[] }, { accessFlags := 25, nameIndex := 430, descriptorIndex := 404, attributes := #[] }, { accessFlags := 25, nameIndex := 432, descriptorIndex := 404, attributes := #[] }, { accessFlags := 25, nameIndex := 434, descriptorIndex := 404, attributes := #[] }, { accessFlags := 25, nameIndex := 436, descriptorIndex := 404, attributes := #[] }, { accessFlags := 25, nameIndex := 438, descriptorIndex := 404, attributes := #[] }, { accessFlags := 25, nameIndex := 440, descriptorIndex := 404, attributes := #[] }, { accessFlags := 25, nameIndex := 442, descriptorIndex := 404, attributes := #[] }, { accessFlags := 25, nameIndex := 444, descriptorIndex := 404, attributes := #[] }, { accessFlags := 25, nameIndex := 446, descriptorIndex := 404, attributes := #[] }, { accessFlags := 25, nameIndex := 448, descriptorIndex := 404, attributes := #[] }, { accessFlags := 25, nameIndex := 450, descriptorIndex := 404, attributes := #[] }, { accessFlags := 25, nameIndex := 452, descriptorIndex := 404, attributes := #[] }, { accessFlags := 25, nameIndex := 454, descriptorIndex := 404, attributes := #[] }, { accessFlags := 25, nameIndex := 456, descriptorIndex := 404, attributes := #[] }, { accessFlags := 25, nameIndex := 458, descriptorIndex := 404, attributes := #[] }, { accessFlags := 25, nameIndex := 460, descriptorIndex := 404, attributes := #[] }, { accessFlags := 24, nameIndex := 462, descriptorIndex := 392, attributes := #[] }, { accessFlags := 25, nameIndex := 464, descriptorIndex := 404, attributes := #[] }, { accessFlags := 25, nameIndex := 465, descriptorIndex := 404, attributes := #[] }, { accessFlags := 25, nameIndex := 466, descriptorIndex := 404, attributes := #[] }, { accessFlags := 25, nameIndex := 467, descriptorIndex := 404, attributes := #[] }, { accessFlags := 25, nameIndex := 468, descriptorIndex := 404, attributes := #[] }, { accessFlags := 25, nameIndex := 469, descriptorIndex := 404, attributes := #[] }, { accessFlags := 25, nameIndex := 470, descriptorIndex := 404, attributes := #[] }, { accessFlags := 25, nameIndex := 471, descriptorIndex := 404, attributes := #[] }, { accessFlags := 25, nameIndex := 472, descriptorIndex := 404, attributes := #[] }, { accessFlags := 25, nameIndex := 473, descriptorIndex := 404, attributes := #[] }, { accessFlags := 25, nameIndex := 474, descriptorIndex := 404, attributes := #[] }, { accessFlags := 25, nameIndex := 475, descriptorIndex := 404, attributes := #[] }, { accessFlags := 25, nameIndex := 476, descriptorIndex := 404, attributes := #[] }, { accessFlags := 25, nameIndex := 477, descriptorIndex := 404, attributes := #[] }, { accessFlags := 25, nameIndex := 478, descriptorIndex := 404, attributes := #[] }, { accessFlags := 25, nameIndex := 479, descriptorIndex := 404, attributes := #[] }, { accessFlags := 25, nameIndex := 480, descriptorIndex := 404, attributes := #[] }, { accessFlags := 25, nameIndex := 481, descriptorIndex := 404, attributes := #[] }, { accessFlags := 25, nameIndex := 482, descriptorIndex := 404, attributes := #[] }, { accessFlags := 25, nameIndex := 484, descriptorIndex := 404, attributes := #[] }, { accessFlags := 25, nameIndex := 485, descriptorIndex := 404, attributes := #[] }, { accessFlags := 25, nameIndex := 486, descriptorIndex := 404, attributes := #[] }, { accessFlags := 25, nameIndex := 487, descriptorIndex := 404, attributes := #[] }, { accessFlags := 25, nameIndex := 488, descriptorIndex := 404, attributes := #[] }, { accessFlags := 25, nameIndex := 489, descriptorIndex := 22, attributes := #[] }, { accessFlags := 25, nameIndex := 490, descriptorIndex := 22, attributes := #[] }, { accessFlags := 25, nameIndex := 492, descriptorIndex := 22, attributes := #[] }, { accessFlags := 25, nameIndex := 493, descriptorIndex := 22, attributes := #[] }, { accessFlags := 25, nameIndex := 495, descriptorIndex := 22, attributes := #[] }, { accessFlags := 25, nameIndex := 496, descriptorIndex := 22, attributes := #[] }, { accessFlags := 25, nameIndex := 497, descriptorIndex := 392, attributes := #[] }, { accessFlags := 25, nameIndex := 498, descriptorIndex := 392, attributes := #[] }, { accessFlags := 25, nameIndex := 499, descriptorIndex := 392, attributes := #[] }, { accessFlags := 18, nameIndex := 21, descriptorIndex := 22, attributes := #[] }, { accessFlags := 26, nameIndex := 501, descriptorIndex := 502, attributes := #[] }, { accessFlags := 25, nameIndex := 505, descriptorIndex := 392, attributes := #[] }, { accessFlags := 25, nameIndex := 506, descriptorIndex := 392, attributes := #[] }, { accessFlags := 4120, nameIndex := 284, descriptorIndex := 285, attributes := #[] }])
  fields := #[{ name := "MIN_RADIX", type := .int, accessFlags := 25, slot := 0, constantValue := 0 }, { name := "MAX_RADIX", type := .int, accessFlags := 25, slot := 1, constantValue := 0 }, { name := "MIN_VALUE", type := .char, accessFlags := 25, slot := 2, constantValue := 0 }, { name := "MAX_VALUE", type := .char, accessFlags := 25, slot := 3, constantValue := 0 }, { name := "TYPE", type := (.object "java/lang/Class"), accessFlags := 25, slot := 4, constantValue := 0 }, { name := "UNASSIGNED", type := .byte, accessFlags := 25, slot := 5, constantValue := 0 }, { name := "UPPERCASE_LETTER", type := .byte, accessFlags := 25, slot := 6, constantValue := 0 }, { name := "LOWERCASE_LETTER", type := .byte, accessFlags := 25, slot := 7, constantValue := 0 }, { name := "TITLECASE_LETTER", type := .byte, accessFlags := 25, slot := 8, constantValue := 0 }, { name := "MODIFIER_LETTER", type := .byte, accessFlags := 25, slot := 9, constantValue := 0 }, { name := "OTHER_LETTER", type := .byte, accessFlags := 25, slot := 10, constantValue := 0 }, { name := "NON_SPACING_MARK", type := .byte, accessFlags := 25, slot := 11, constantValue := 0 }, { name := "ENCLOSING_MARK", type := .byte, accessFlags := 25, slot := 12, constantValue := 0 }, { name := "COMBINING_SPACING_MARK", type := .byte, accessFlags := 25, slot := 13, constantValue := 0 }, { name := "DECIMAL_DIGIT_NUMBER", type := .byte, accessFlags := 25, slot := 14, constantValue := 0 }, { name := "LETTER_NUMBER", type := .byte, accessFlags := 25, slot := 15, constantValue := 0 }, { name := "OTHER_NUMBER", type := .byte, accessFlags := 25, slot := 16, constantValue := 0 }, { name := "SPACE_SEPARATOR", type := .byte, accessFlags := 25, slot := 17, constantValue := 0 }, { name := "LINE_SEPARATOR", type := .byte, accessFlags := 25, slot := 18, constantValue := 0 }, { name := "PARAGRAPH_SEPARATOR", type := .byte, accessFlags := 25, slot := 19, constantValue := 0 }, { name := "CONTROL", type := .byte, accessFlags := 25, slot := 20, constantValue := 0 }, { name := "FORMAT", type := .byte, accessFlags := 25, slot := 21, constantValue := 0 }, { name := "PRIVATE_USE", type := .byte, accessFlags := 25, slot := 22, constantValue := 0 }, { name := "SURROGATE", type := .byte, accessFlags := 25, slot := 23, constantValue := 0 }, { name := "DASH_PUNCTUATION", type := .byte, accessFlags := 25, slot := 24, constantValue := 0 }, { name := "START_PUNCTUATION", type := .byte, accessFlags := 25, slot := 25, constantValue := 0 }, { name := "END_PUNCTUATION", type := .byte, accessFlags := 25, slot := 26, constantValue := 0 }, { name := "CONNECTOR_PUNCTUATION", type := .byte, accessFlags := 25, slot := 27, constantValue := 0 }, { name := "OTHER_PUNCTUATION", type := .byte, accessFlags := 25, slot := 28, constantValue := 0 }, { name := "MATH_SYMBOL", type := .byte, accessFlags := 25, slot := 29, constantValue := 0 }, { name := "CURRENCY_SYMBOL", type := .byte, accessFlags := 25, slot := 30, constantValue := 0 }, { name := "MODIFIER_SYMBOL", type := .byte, accessFlags := 25, slot := 31, constantValue := 0 }, { name := "OTHER_SYMBOL", type := .byte, accessFlags := 25, slot := 32, constantValue := 0 }, { name := "INITIAL_QUOTE_PUNCTUATION", type := .byte, accessFlags := 25, slot := 33, constantValue := 0 }, { name := "FINAL_QUOTE_PUNCTUATION", type := .byte, accessFlags := 25, slot := 34, constantValue := 0 }, { name := "ERROR", type := .int, accessFlags := 24, slot := 35, constantValue := 0 }, { name := "DIRECTIONALITY_UNDEFINED", type := .byte, accessFlags := 25, slot := 36, constantValue := 0 }, { name := "DIRECTIONALITY_LEFT_TO_RIGHT", type := .byte, accessFlags := 25, slot := 37, constantValue := 0 }, { name := "DIRECTIONALITY_RIGHT_TO_LEFT", type := .byte, accessFlags := 25, slot := 38, constantValue := 0 }, { name := "DIRECTIONALITY_RIGHT_TO_LEFT_ARABIC", type := .byte, accessFlags := 25, slot := 39, constantValue := 0 }, { name := "DIRECTIONALITY_EUROPEAN_NUMBER", type := .byte, accessFlags := 25, slot := 40, constantValue := 0 }, { name := "DIRECTIONALITY_EUROPEAN_NUMBER_SEPARATOR", type := .byte, accessFlags := 25, slot := 41, constantValue := 0 }, { name := "DIRECTIONALITY_EUROPEAN_NUMBER_TERMINATOR", type := .byte, accessFlags := 25, slot := 42, constantValue := 0 }, { name := "DIRECTIONALITY_ARABIC_NUMBER", type := .byte, accessFlags := 25, slot := 43, constantValue := 0 }, { name := "DIRECTIONALITY_COMMON_NUMBER_SEPARATOR", type := .byte, accessFlags := 25, slot := 44, constantValue := 0 }, { name := "DIRECTIONALITY_NONSPACING_MARK", type := .byte, accessFlags := 25, slot := 45, constantValue := 0 }, { name := "DIRECTIONALITY_BOUNDARY_NEUTRAL", type := .byte, accessFlags := 25, slot := 46, constantValue := 0 }, { name := "DIRECTIONALITY_PARAGRAPH_SEPARATOR", type := .byte, accessFlags := 25, slot := 47, constantValue := 0 }, { name := "DIRECTIONALITY_SEGMENT_SEPARATOR", type := .byte, accessFlags := 25, slot := 48, constantValue := 0 }, { name := "DIRECTIONALITY_WHITESPACE", type := .byte, accessFlags := 25, slot := 49, constantValue := 0 }, { name := "DIRECTIONALITY_OTHER_NEUTRALS", type := .byte, accessFlags := 25, slot := 50, constantValue := 0 }, { name := "DIRECTIONALITY_LEFT_TO_RIGHT_EMBEDDING", type := .byte, accessFlags := 25, slot := 51, constantValue := 0 }, { name := "DIRECTIONALITY_LEFT_TO_RIGHT_OVERRIDE", type := .byte, accessFlags := 25, slot := 52, constantValue := 0 }, { name := "DIRECTIONALITY_RIGHT_TO_LEFT_EMBEDDING", type := .byte, accessFlags := 25, slot := 53, constantValue := 0 }, { name := "DIRECTIONALITY_RIGHT_TO_LEFT_OVERRIDE", type := .byte, accessFlags := 25, slot := 54, constantValue := 0 }, { name := "DIRECTIONALITY_POP_DIRECTIONAL_FORMAT", type := .byte, accessFlags := 25, slot := 55, constantValue := 0 }, { name := "DIRECTIONALITY_LEFT_TO_RIGHT_ISOLATE", type := .byte, accessFlags := 25, slot := 56, constantValue := 0 }, { name := "DIRECTIONALITY_RIGHT_TO_LEFT_ISOLATE", type := .byte, accessFlags := 25, slot := 57, constantValue := 0 }, { name := "DIRECTIONALITY_FIRST_STRONG_ISOLATE", type := .byte, accessFlags := 25, slot := 58, constantValue := 0 }, { name := "DIRECTIONALITY_POP_DIRECTIONAL_ISOLATE", type := .byte, accessFlags := 25, slot := 59, constantValue := 0 }, { name := "MIN_HIGH_SURROGATE", type := .char, accessFlags := 25, slot := 60, constantValue := 0 }, { name := "MAX_HIGH_SURROGATE", type := .char, accessFlags := 25, slot := 61, constantValue := 0 }, { name := "MIN_LOW_SURROGATE", type := .char, accessFlags := 25, slot := 62, constantValue := 0 }, { name := "MAX_LOW_SURROGATE", type := .char, accessFlags := 25, slot := 63, constantValue := 0 }, { name := "MIN_SURROGATE", type := .char, accessFlags := 25, slot := 64, constantValue := 0 }, { name := "MAX_SURROGATE", type := .char, accessFlags := 25, slot := 65, constantValue := 0 }, { name := "MIN_SUPPLEMENTARY_CODE_POINT", type := .int, accessFlags := 25, slot := 66, constantValue := 0 }, { name := "MIN_CODE_POINT", type := .int, accessFlags := 25, slot := 67, constantValue := 0 }, { name := "MAX_CODE_POINT", type := .int, accessFlags := 25, slot := 68, constantValue := 0 }, { name := "value", type := .char, accessFlags := 18, slot := 0, constantValue := 0 }, { name := "serialVersionUID", type := .long, accessFlags := 26, slot := 69, constantValue := 0 }, { name := "SIZE", type := .int, accessFlags := 25, slot := 70, constantValue := 0 }, { name := "BYTES", type := .int, accessFlags := 25, slot := 71, constantValue := 0 }, { name := "$assertionsDisabled", type := .boolean, accessFlags := 4120, slot := 72, constantValue := 0 }]
  methods := #[k12m0, k12m1]
  instanceTypes := #[.char]
  staticTypes := #[.int, .int, .char, .char, (.object "java/lang/Class"), .byte, .byte, .byte, .byte, .byte, .byte, .byte, .byte, .byte, .byte, .byte, .byte, .byte, .byte, .byte, .byte, .byte, .byte, .byte, .byte, .byte, .byte, .byte, .byte, .byte, .byte, .byte, .byte, .byte, .byte, .int, .byte, .byte, .byte, .byte, .byte, .byte, .byte, .byte, .byte, .byte, .byte, .byte, .byte, .byte, .byte, .byte, .byte, .byte, .byte, .byte, .byte, .byte, .byte, .byte, .char, .char, .char, .char, .char, .char, .int, .int, .int, .long, .int, .int, .boolean]
  resolved := Array.replicate 604 none
  statics := none }

def pool13 : Array CpInfo := pool [(1, .class_ 2), (0, u "java/lang/Math"), (1, .class_ 6), (1, u "java/lang/Object"), (0, u "<init>"), (0, u "()V"), (89, .class_ 100), (1, u "java/lang/Math$RandomNumberGeneratorHolder"), (71, u "negativeZeroFloatBits"), (0, u "J"), (2, u "negativeZeroDoubleBits"), (21, u "max"), (2, u "min"), (43, u "$assertionsDisabled"), (0, u "Z"), (88, u "(II)I"), (2, u "twoToTheDoubleScaleDown"), (0, u "D"), (4, u "twoToTheDoubleScaleUp"), (9, u "E"), (3, u "PI"), (2, u "TAU"), (2, u "DEGREES_TO_RADIANS"), (0, u "RADIANS_TO_DEGREES")] 94

def k13m0 : Method := { name := "<init>", desc := "()V", sig := { parameters := [], returnType := none }, accessFlags := 2, code := none }
def k13c1 : Code := { maxStack := 2, maxLocals := 2, code := jdk_29_method_65_code, exceptionTable := #[], attributes := #[] }
def k13m1 : Method := { name := "max", desc := "(II)I", sig := { parameters := [.int, .int], returnType := some .int }, accessFlags := 9, code := some k13c1 }
def k13c2 : Code := { maxStack := 2, maxLocals := 2, code := jdk_29_method_69_code, exceptionTable := #[], attributes := #[] }
def k13m2 : Method := { name := "min", desc := "(II)I", sig := { parameters := [.int, .int], returnType := some .int }, accessFlags := 9, code := some k13c2 }
/-- java/lang/Math -/
def k13 : Class := { plain "java/lang/Math" (some 0) with
  accessFlags := 49
  interfaces := #[]
  cf := some (fileOf pool13 1 #[.nestMembers #[98]] #[{ accessFlags := 2, nameIndex := 7, descriptorIndex := 8, attributes := #[] }, { accessFlags := 9, nameIndex := 198, descriptorIndex := 335, attributes := #[] }, { accessFlags := 9, nameIndex := 201, descriptorIndex := 335, attributes := #[] }] 49 4 #[] #[{ accessFlags := 25, nameIndex := 354, descriptorIndex := 339, attributes := #[] }, { accessFlags := 25, nameIndex := 358, descriptorIndex := 339, attributes := #[] }, { accessFlags := 25, nameIndex := 361, descriptorIndex := 339, attributes := #[] }, { accessFlags := 26, nameIndex := 364, descriptorIndex := 339, attributes := #[] }, { accessFlags := 26, nameIndex := 365, descriptorIndex := 339, attributes := #[] }, { accessFlags := 26, nameIndex := 172, descriptorIndex := 173, attributes := #[] }, { accessFlags := 26, nameIndex := 176, descriptorIndex := 173, attributes := #[] }, { accessFlags := 8, nameIndex := 344, descriptorIndex := 339, attributes := #[] }, { accessFlags := 8, nameIndex := 338, descriptorIndex := 339, attributes := #[] }, { accessFlags := 4120, nameIndex := 245, descriptorIndex := 246, attributes := #[] }])
  fields := #[{ name := "E", type := .double, accessFlags := 25, slot := 0, constantValue := 0 }, { name := "PI", type := .double, accessFlags := 25, slot := 1, constantValue := 0 }, { name := "TAU", type := .double, accessFlags := 25, slot := 2, constantValue := 0 }, { name := "DEGREES_TO_RADIANS", type := .double, accessFlags := 26, slot := 3, constantValue := 0 }, { name := "RADIANS_TO_DEGREES", type := .double, accessFlags := 26, slot := 4, constantValue := 0 }, { name := "negativeZeroFloatBits", type := .long, accessFlags := 26, slot := 5, constantValue := 0 }, { name := "negativeZeroDoubleBits", type := .long, accessFlags := 26, slot := 6, constantValue := 0 }, { name := "twoToTheDoubleScaleUp", type := .double, accessFlags := 8, slot := 7, constantValue := 0 }, { name := "twoToTheDoubleScaleDown", type := .double, accessFlags := 8, slot := 8, constantValue := 0 }, { name := "$assertionsDisabled", type := .boolean, accessFlags := 4120, slot := 9, constantValue := 0 }]
  methods := #[k13m0, k13m1, k13m2]
  instanceTypes := #[]
  staticTypes := #[.double, .double, .double, .double, .double, .long, .long, .double, .double, .boolean]
  resolved := Array.replicate 460 none
  statics := none }

def pool14 : Array CpInfo := pool [(4, .class_ 6), (1, u "java/lang/Object"), (0, u "<init>"), (0, u "()V"), (5, .class_ 16), (1, u "java/lang/StringLatin1"), (21, .methodref 39 40), (0, .class_ 41), (0, .nameAndType 42 43), (0, u "java/lang/Math"), (0, u "min"), (0, u "(II)I"), (44, .methodref 14 89), (0, .nameAndType 90 91), (0, u "canEncode"), (0, u "(I)Z"), (0, .methodref 39 93), (0, .nameAndType 94 43), (0, u "max"), (0, .methodref 14 96), (0, .nameAndType 97 98), (0, u "indexOfChar"), (0, u "([BIII)I"), (2, u "indexOf"), (19, u "$assertionsDisabled"), (0, u "Z"), (98, .class_ 223), (1, u "java/lang/StringLatin1$LinesSpliterator"), (166, .class_ 391), (0, u "java/lang/StringLatin1$CharsSpliterator")] 3

def k14m0 : Method := { name := "<init>", desc := "()V", sig := { parameters := [], returnType := none }, accessFlags := 0, code := none }
def k14c1 : Code := { maxStack := 2, maxLocals := 1, code := jdk_43_method_4_code, exceptionTable := #[], attributes := #[] }
def k14m1 : Method := { name := "canEncode", desc := "(I)Z", sig := { parameters := [.int], returnType := some .boolean }, accessFlags := 9, code := some k14c1 }
def k14c2 : Code := { maxStack := 4, maxLocals := 4, code := jdk_43_method_22_code, exceptionTable := #[], attributes := #[] }
def k14m2 : Method := { name := "indexOf", desc := "([BIII)I", sig := { parameters := [(.array .byte), .int, .int, .int], returnType := some .int }, accessFlags := 9, code := some k14c2 }
def k14c3 : Code := { maxStack := 2, maxLocals := 6, code := jdk_43_method_23_code, exceptionTable := #[], attributes := #[] }
def k14m3 : Method := { name := "indexOfChar", desc := "([BIII)I", sig := { parameters := [(.array .byte), .int, .int, .int], returnType := some .int }, accessFlags := 10, code := some k14c3 }
/-- java/lang/StringLatin1 -/
def k14 : Class := { plain "java/lang/StringLatin1" (some 0) with
  accessFlags := 48
  interfaces := #[]
  cf := some (fileOf pool14 14 #[.nestMembers #[390, 221]] #[{ accessFlags := 0, nameIndex := 7, descriptorIndex := 8, attributes := #[] }, { accessFlags := 9, nameIndex := 90, descriptorIndex := 91, attributes := #[] }, { accessFlags := 9, nameIndex := 101, descriptorIndex := 98, attributes := #[] }, { accessFlags := 10, nameIndex := 97, descriptorIndex := 98, attributes := #[] }] 48 4 #[] #[{ accessFlags := 4120, nameIndex := 121, descriptorIndex := 122, attributes := #[] }])
  fields := #[{ name := "$assertionsDisabled", type := .boolean, accessFlags := 4120, slot := 0, constantValue := 0 }]
  methods := #[k14m0, k14m1, k14m2, k14m3]
  instanceTypes := #[]
  staticTypes := #[.boolean]
  resolved := Array.replicate 395 none
  statics := none }

def pool15 : Array CpInfo := pool [(9, u "<init>"), (6, .class_ 18), (1, u "java/lang/Object"), (0, u "()V"), (1, .class_ 23), (1, u "jdk/internal/util/ArraysSupport"), (0, u "LOG2_ARRAY_LONG_INDEX_SCALE"), (0, u "I"), (2, u "U"), (0, u "Ljdk/internal/misc/Unsafe;"), (8, u "BIG_ENDIAN"), (0, u "Z"), (8, u "LOG2_BYTE_BIT_SIZE"), (4, u "LOG2_ARRAY_INT_INDEX_SCALE"), (54, u "JLA"), (0, u "Ljdk/internal/access/JavaLangAccess;"), (11, u "LOG2_ARRAY_BOOLEAN_INDEX_SCALE"), (9, u "LOG2_ARRAY_BYTE_INDEX_SCALE"), (5, u "LOG2_ARRAY_CHAR_INDEX_SCALE"), (5, u "LOG2_ARRAY_SHORT_INDEX_SCALE"), (18, u "LOG2_ARRAY_FLOAT_INDEX_SCALE"), (24, u "LOG2_ARRAY_DOUBLE_INDEX_SCALE"), (89, u "T_BOOLEAN"), (2, u "T_CHAR"), (1, u "T_FLOAT"), (1, u "T_DOUBLE"), (1, u "T_BYTE"), (1, u "T_SHORT"), (1, u "T_INT"), (1, u "T_LONG"), (1, u "SOFT_MAX_ARRAY_LENGTH")] 83

def k15m0 : Method := { name := "<init>", desc := "()V", sig := { parameters := [], returnType := none }, accessFlags := 2, code := none }
/-- jdk/internal/util/ArraysSupport -/
def k15 : Class := { plain "jdk/internal/util/ArraysSupport" (some 0) with
  accessFlags := 33
  interfaces := #[]
  cf := some (fileOf pool15 21 #[] #[{ accessFlags := 2, nameIndex := 9, descriptorIndex := 19, attributes := #[] }] 33 16 #[] #[{ accessFlags := 24, nameIndex := 28, descriptorIndex := 29, attributes := #[] }, { accessFlags := 26, nameIndex := 38, descriptorIndex := 39, attributes := #[] }, { accessFlags := 25, nameIndex := 121, descriptorIndex := 25, attributes := #[] }, { accessFlags := 25, nameIndex := 131, descriptorIndex := 25, attributes := #[] }, { accessFlags := 25, nameIndex := 137, descriptorIndex := 25, attributes := #[] }, { accessFlags := 25, nameIndex := 143, descriptorIndex := 25, attributes := #[] }, { accessFlags := 25, nameIndex := 53, descriptorIndex := 25, attributes := #[] }, { accessFlags := 25, nameIndex := 24, descriptorIndex := 25, attributes := #[] }, { accessFlags := 25, nameIndex := 162, descriptorIndex := 25, attributes := #[] }, { accessFlags := 25, nameIndex := 187, descriptorIndex := 25, attributes := #[] }, { accessFlags := 26, nameIndex := 48, descriptorIndex := 25, attributes := #[] }, { accessFlags := 25, nameIndex := 277, descriptorIndex := 25, attributes := #[] }, { accessFlags := 25, nameIndex := 280, descriptorIndex := 25, attributes := #[] }, { accessFlags := 25, nameIndex := 282, descriptorIndex := 25, attributes := #[] }, { accessFlags := 25, nameIndex := 284, descriptorIndex := 25, attributes := #[] }, { accessFlags := 25, nameIndex := 286, descriptorIndex := 25, attributes := #[] }, { accessFlags := 25, nameIndex := 288, descriptorIndex := 25, attributes := #[] }, { accessFlags := 25, nameIndex := 290, descriptorIndex := 25, attributes := #[] }, { accessFlags := 25, nameIndex := 292, descriptorIndex := 25, attributes := #[] }, { accessFlags := 26, nameIndex := 108, descriptorIndex := 109, attributes := #[] }, { accessFlags := 25, nameIndex := 294, descriptorIndex := 25, attributes := #[] }])
  fields := #[{ name := "U", type := (.object "jdk/internal/misc/Unsafe"), accessFlags := 24, slot := 0, constantValue := 0 }, { name := "BIG_ENDIAN", type := .boolean, accessFlags := 26, slot := 1, constantValue := 0 }, { name := "LOG2_ARRAY_BOOLEAN_INDEX_SCALE", type := .int, accessFlags := 25, slot := 2, constantValue := 0 }, { name := "LOG2_ARRAY_BYTE_INDEX_SCALE", type := .int, accessFlags := 25, slot := 3, constantValue := 0 }, { name := "LOG2_ARRAY_CHAR_INDEX_SCALE", type := .int, accessFlags := 25, slot := 4, constantValue := 0 }, { name := "LOG2_ARRAY_SHORT_INDEX_SCALE", type := .int, accessFlags := 25, slot := 5, constantValue := 0 }, { name := "LOG2_ARRAY_INT_INDEX_SCALE", type := .int, accessFlags := 25, slot := 6, constantValue := 0 }, { name := "LOG2_ARRAY_LONG_INDEX_SCALE", type := .int, accessFlags := 25, slot := 7, constantValue := 0 }, { name := "LOG2_ARRAY_FLOAT_INDEX_SCALE", type := .int, accessFlags := 25, slot := 8, constantValue := 0 }, { name := "LOG2_ARRAY_DOUBLE_INDEX_SCALE", type := .int, accessFlags := 25, slot := 9, constantValue := 0 }, { name := "LOG2_BYTE_BIT_SIZE", type := .int, accessFlags := 26, slot := 10, constantValue := 0 }, { name := "T_BOOLEAN", type := .int, accessFlags := 25, slot := 11, constantValue := 0 }, { name := "T_CHAR", type := .int, accessFlags := 25, slot := 12, constantValue := 0 }, { name := "T_FLOAT", type := .int, accessFlags := 25, slot := 13, constantValue := 0 }, { name := "T_DOUBLE", type := .int, accessFlags := 25, slot := 14, constantValue := 0 }, { name := "T_BYTE", type := .int, accessFlags := 25, slot := 15, constantValue := 0 }, { name := "T_SHORT", type := .int, accessFlags := 25, slot := 16, constantValue := 0 }, { name := "T_INT", type := .int, accessFlags := 25, slot := 17, constantValue := 0 }, { name := "T_LONG", type := .int, accessFlags := 25, slot := 18, constantValue := 0 }, { name := "JLA", type := (.object "jdk/internal/access/JavaLangAccess"), accessFlags := 26, slot := 19, constantValue := 0 }, { name := "SOFT_MAX_ARRAY_LENGTH", type := .int, accessFlags := 25, slot := 20, constantValue := 0 }]
  methods := #[k15m0]
  instanceTypes := #[]
  staticTypes := #[(.object "jdk/internal/misc/Unsafe"), .boolean, .int, .int, .int, .int, .int, .int, .int, .int, .int, .int, .int, .int, .int, .int, .int, .int, .int, (.object "jdk/internal/access/JavaLangAccess"), .int]
  resolved := Array.replicate 378 none
  statics := none }

def pool16 : Array CpInfo := pool [(1, u "java/lang/Cloneable"), (0, .class_ 1), (0, u "java/lang/Object"), (0, .class_ 3)] 3

/-- java/lang/Cloneable -/
def k16 : Class := { plain "java/lang/Cloneable" (some 0) with
  accessFlags := 1537
  interfaces := #[]
  cf := some (fileOf pool16 2 #[] #[] 1537 4 #[] #[])
  fields := #[]
  methods := #[]
  instanceTypes := #[]
  staticTypes := #[]
  resolved := Array.replicate 8 none
  statics := none }

/-- the primitive byte -/
def k17 : Class := { plain "byte" none with kind := .primitive 'B', accessFlags := 0x411 }
/-- [B -/
def k18 : Class := { plain "[B" (some 0) with kind := .array 17 .byte, interfaces := #[16, 2], accessFlags := 1041 }

/-- the primitive char -/
def k19 : Class := { plain "char" none with kind := .primitive 'C', accessFlags := 0x411 }
/-- [C -/
def k20 : Class := { plain "[C" (some 0) with kind := .array 19 .char, interfaces := #[16, 2], accessFlags := 1041 }

/-- the primitive int -/
def k21 : Class := { plain "int" none with kind := .primitive 'I', accessFlags := 0x411 }
/-- [I -/
def k22 : Class := { plain "[I" (some 0) with kind := .array 21 .int, interfaces := #[16, 2], accessFlags := 1041 }

def heap : Heap := #[{ cls := 7, slots := #[.long 0, .int 1, .null, .int 0, .null, .int 0, .int 0], vm := .statics 7 },
  { cls := 9, slots := #[.int 0, .int 8, .int 0, .int 1], vm := .statics 9 },
  { cls := 11, slots := #[.null, .null, .null], vm := .statics 11 }]
def classes : Array Class := #[k0, k1, k2, k3, k4, k5, k6, k7, k8, k9, k10, k11, k12, k13, k14, k15, k16, k17, k18, k19, k20, k21, k22]
def interned : List (Array UInt16 × Addr) := []
def slotsUsed : Nat := 14
def theMethod : MethodId := ⟨1, 5⟩
def args0 : Array Value := #[.int 1, .int 400, .int 5, .int 6, .int 7]
def aboutOver (below : List Frame) : State where
  vm := { classes := classes, interned := interned.toArray }
  heap := heap
  slotsUsed := slotsUsed
  threads := #[{ frames := .invoking theMethod args0 :: below }]
def below0 : List Frame := [.native { method := ⟨0, 0⟩, args := #[] }]
def about1 : State := aboutOver below0
def p0 : Program := .bare "" "" ""
def e0 : Env := launch0.env 0 0 0
theorem w_frames : about1.frames = Frame.invoking theMethod args0 :: below0 := rfl
set_option maxRecDepth 65536 in
theorem w_args : argsFit about1.vm theMethod args0 = true := by decide +kernel
set_option maxRecDepth 65536 in
theorem w_heap : heapFits about1 = true := by decide +kernel
set_option maxRecDepth 65536 in
theorem w_runnable : about1.curStatus? = some .runnable := by decide +kernel
set_option maxRecDepth 65536 in
theorem w_alone : about1.alone = true := by decide +kernel
set_option maxRecDepth 65536 in
theorem w_named : about1.methodNamed? x = some theMethod := by decide +kernel
set_option maxRecDepth 65536 in
theorem w_hears : about1.hears theMethod below0 = true := by decide +kernel
set_option maxRecDepth 65536 in
theorem w_ripe : about1.ripe theMethod args0 below0 = true := by decide +kernel
theorem w_running : about1.status = .running := rfl
set_option maxRecDepth 65536 in
theorem w_room : about1.hasRoom e0.platform room_1 = true :=
  launch0.hasRoom_least _ room_1 (by decide +kernel) (by decide +kernel) (by decide +kernel) (by decide +kernel) (by decide +kernel) (by decide +kernel)
theorem allAtoms_all (ts : List Jvm.Cond) (a : Array Jvm.Value) (st : Jvm.State) : (allAtoms ts).before a st = ts.all (fun c => c.before a st) := by
  induction ts with
  | nil => rfl
  | cons c t ih =>
    show (Jvm.Cond.and c (allAtoms t)).before a st = _
    rw [Jvm.Cond.before_and, ih, List.all_cons]
def words1 : List Jvm.Cond := Jvm.Cond.code x code maxLocals ret :: tables_1
/-- a 'code' word, met by the world's own term for the bytes: nothing is compared byte by byte -/
theorem code_word {y : MethodName} {bytes : ByteArray} {mx : Nat} {rt : Option FieldType} {a : Array Value} {s : State} {m : MethodId} {meth : Method} {c : Code} (h1 : s.methodNamed? y = some m) (h2 : s.vm.method? m = some meth) (h3 : meth.code = some c) (h4 : c.code = bytes)
    (h5 : (c.maxLocals == mx && c.exceptionTable.isEmpty && decide (c.maxStack ≤ mostOperands) && decide (meth.sig.returnType = rt) && !meth.locks && decide (parseMethodDescriptor y.desc = some meth.sig)) = true) : (Jvm.Cond.code y bytes mx rt).before a s = true := by
  simp only [Bool.and_eq_true, beq_iff_eq, Bool.not_eq_true', decide_eq_true_eq] at h5
  obtain ⟨⟨⟨⟨⟨g1, g2⟩, g3⟩, g4⟩, g5⟩, g6⟩ := h5
  simp [Cond.before, Cond.holds, Cond.value, h1, h2, h3, h4, g1, g2, g3, g4, g5, g6]
def isCode : Jvm.Cond → Bool
  | .code _ _ _ _ => true
  | _ => false
theorem all_split {L : List Jvm.Cond} {P : Jvm.Cond → Bool} (h1 : L.all (fun c => isCode c || P c) = true) (h2 : ∀ c ∈ L.filter isCode, P c = true) : L.all P = true := by
  refine List.all_eq_true.mpr fun c hc => ?_
  have h := List.all_eq_true.mp h1 c hc
  rcases Bool.eq_false_or_eq_true (isCode c) with hi | hi
  · exact h2 c (List.mem_filter.mpr ⟨hc, hi⟩)
  · simpa [hi] using h
set_option maxRecDepth 65536 in
theorem w_c0 : (Jvm.Cond.code x code maxLocals ret).before args0 about1 = true := code_word (m := ⟨1, 5⟩) (meth := k1m5) (c := k1c5) (by decide +kernel) rfl rfl rfl (by decide +kernel)
set_option maxRecDepth 65536 in
theorem w_c1 : (Jvm.Cond.code ({ cls := "com/example/coterie/coterie/job/JobIsWellFormedKeyPinLaw", name := "pick", desc := "(I)C" } : Jvm.MethodName) method_2_code (3 : Nat) (Option.some Jvm.ClassFile.FieldType.char)).before args0 about1 = true := code_word (m := ⟨1, 1⟩) (meth := k1m1) (c := k1c1) (by decide +kernel) rfl rfl rfl (by decide +kernel)
set_option maxRecDepth 65536 in
theorem w_c2 : (Jvm.Cond.code ({ cls := "com/example/coterie/coterie/job/JobIsWellFormedKeyPinLaw", name := "shortKey", desc := "(ICCCC)Ljava/lang/String;" } : Jvm.MethodName) method_4_code (5 : Nat) (Option.some (Jvm.ClassFile.FieldType.object "java/lang/String"))).before args0 about1 = true := code_word (m := ⟨1, 3⟩) (meth := k1m3) (c := k1c3) (by decide +kernel) rfl rfl rfl (by decide +kernel)
set_option maxRecDepth 65536 in
theorem w_c3 : (Jvm.Cond.code ({ cls := "java/lang/String", name := "<init>", desc := "([C)V" } : Jvm.MethodName) jdk_42_method_3_code (2 : Nat) (Option.none : Option Jvm.ClassFile.FieldType)).before args0 about1 = true := code_word (m := ⟨7, 1⟩) (meth := k7m1) (c := k7c1) (by decide +kernel) rfl rfl rfl (by decide +kernel)
set_option maxRecDepth 65536 in
theorem w_c4 : (Jvm.Cond.code ({ cls := "java/lang/String", name := "<init>", desc := "([CIILjava/lang/Void;)V" } : Jvm.MethodName) jdk_42_method_149_code (6 : Nat) (Option.none : Option Jvm.ClassFile.FieldType)).before args0 about1 = true := code_word (m := ⟨7, 7⟩) (meth := k7m7) (c := k7c7) (by decide +kernel) rfl rfl rfl (by decide +kernel)
set_option maxRecDepth 65536 in
theorem w_c5 : (Jvm.Cond.code ({ cls := "java/lang/Object", name := "<init>", desc := "()V" } : Jvm.MethodName) object_method_1_code (1 : Nat) (Option.none : Option Jvm.ClassFile.FieldType)).before args0 about1 = true := code_word (m := ⟨0, 0⟩) (meth := k0m0) (c := k0c0) (by decide +kernel) rfl rfl rfl (by decide +kernel)
set_option maxRecDepth 65536 in
theorem w_c6 : (Jvm.Cond.code ({ cls := "com/example/coterie/coterie/job/Job", name := "isWellFormedKey", desc := "(Ljava/lang/String;)Z" } : Jvm.MethodName) prog_13_method_4_code (1 : Nat) (Option.some Jvm.ClassFile.FieldType.boolean)).before args0 about1 = true := code_word (m := ⟨8, 0⟩) (meth := k8m0) (c := k8c0) (by decide +kernel) rfl rfl rfl (by decide +kernel)
set_option maxRecDepth 65536 in
theorem w_c7 : (Jvm.Cond.code ({ cls := "java/lang/String", name := "isEmpty", desc := "()Z" } : Jvm.MethodName) jdk_42_method_55_code (1 : Nat) (Option.some Jvm.ClassFile.FieldType.boolean)).before args0 about1 = true := code_word (m := ⟨7, 3⟩) (meth := k7m3) (c := k7c3) (by decide +kernel) rfl rfl rfl (by decide +kernel)
set_option maxRecDepth 65536 in
theorem w_c8 : (Jvm.Cond.code ({ cls := "java/lang/StringUTF16", name := "compress", desc := "([CII)[B" } : Jvm.MethodName) jdk_52_method_16_code (6 : Nat) (Option.some (Jvm.ClassFile.FieldType.array Jvm.ClassFile.FieldType.byte))).before args0 about1 = true := code_word (m := ⟨9, 10⟩) (meth := k9m10) (c := k9c10) (by decide +kernel) rfl rfl rfl (by decide +kernel)
set_option maxRecDepth 65536 in
theorem w_c9 : (Jvm.Cond.code ({ cls := "java/lang/StringUTF16", name := "compress", desc := "([CI[BII)I" } : Jvm.MethodName) jdk_52_method_21_code (7 : Nat) (Option.some Jvm.ClassFile.FieldType.int)).before args0 about1 = true := code_word (m := ⟨9, 11⟩) (meth := k9m11) (c := k9c11) (by decide +kernel) rfl rfl rfl (by decide +kernel)
set_option maxRecDepth 65536 in
theorem w_c10 : (Jvm.Cond.code ({ cls := "java/lang/StringUTF16", name := "toBytes", desc := "([CII)[B" } : Jvm.MethodName) jdk_52_method_14_code (5 : Nat) (Option.some (Jvm.ClassFile.FieldType.array Jvm.ClassFile.FieldType.byte))).before args0 about1 = true := code_word (m := ⟨9, 8⟩) (meth := k9m8) (c := k9c8) (by decide +kernel) rfl rfl rfl (by decide +kernel)
set_option maxRecDepth 65536 in
theorem w_c11 : (Jvm.Cond.code ({ cls := "java/lang/StringUTF16", name := "newBytesFor", desc := "(I)[B" } : Jvm.MethodName) jdk_52_method_2_code (1 : Nat) (Option.some (Jvm.ClassFile.FieldType.array Jvm.ClassFile.FieldType.byte))).before args0 about1 = true := code_word (m := ⟨9, 1⟩) (meth := k9m1) (c := k9c1) (by decide +kernel) rfl rfl rfl (by decide +kernel)
set_option maxRecDepth 65536 in
theorem w_c12 : (Jvm.Cond.code ({ cls := "java/lang/StringUTF16", name := "newBytesLength", desc := "(I)I" } : Jvm.MethodName) jdk_52_method_3_code (1 : Nat) (Option.some Jvm.ClassFile.FieldType.int)).before args0 about1 = true := code_word (m := ⟨9, 2⟩) (meth := k9m2) (c := k9c2) (by decide +kernel) rfl rfl rfl (by decide +kernel)
set_option maxRecDepth 65536 in
theorem w_c13 : (Jvm.Cond.code ({ cls := "java/lang/StringUTF16", name := "putChar", desc := "([BII)V" } : Jvm.MethodName) jdk_52_method_4_code (3 : Nat) (Option.none : Option Jvm.ClassFile.FieldType)).before args0 about1 = true := code_word (m := ⟨9, 3⟩) (meth := k9m3) (c := k9c3) (by decide +kernel) rfl rfl rfl (by decide +kernel)
set_option maxRecDepth 65536 in
theorem w_c14 : (Jvm.Cond.code ({ cls := "java/lang/StringUTF16", name := "getChar", desc := "([BI)C" } : Jvm.MethodName) jdk_52_method_5_code (2 : Nat) (Option.some Jvm.ClassFile.FieldType.char)).before args0 about1 = true := code_word (m := ⟨9, 4⟩) (meth := k9m4) (c := k9c4) (by decide +kernel) rfl rfl rfl (by decide +kernel)
set_option maxRecDepth 65536 in
theorem w_c15 : (Jvm.Cond.code ({ cls := "java/lang/StringUTF16", name := "coderFromArrayLen", desc := "([BI)B" } : Jvm.MethodName) jdk_52_method_15_code (2 : Nat) (Option.some Jvm.ClassFile.FieldType.byte)).before args0 about1 = true := code_word (m := ⟨9, 9⟩) (meth := k9m9) (c := k9c9) (by decide +kernel) rfl rfl rfl (by decide +kernel)
set_option maxRecDepth 65536 in
theorem w_c16 : (Jvm.Cond.code ({ cls := "java/lang/String", name := "length", desc := "()I" } : Jvm.MethodName) jdk_42_method_54_code (1 : Nat) (Option.some Jvm.ClassFile.FieldType.int)).before args0 about1 = true := code_word (m := ⟨7, 2⟩) (meth := k7m2) (c := k7c2) (by decide +kernel) rfl rfl rfl (by decide +kernel)
set_option maxRecDepth 65536 in
theorem w_c17 : (Jvm.Cond.code ({ cls := "java/lang/String", name := "coder", desc := "()B" } : Jvm.MethodName) jdk_42_method_152_code (1 : Nat) (Option.some Jvm.ClassFile.FieldType.byte)).before args0 about1 = true := code_word (m := ⟨7, 8⟩) (meth := k7m8) (c := k7c8) (by decide +kernel) rfl rfl rfl (by decide +kernel)
set_option maxRecDepth 65536 in
theorem w_c18 : (Jvm.Cond.code ({ cls := "java/lang/String", name := "codePointCount", desc := "(II)I" } : Jvm.MethodName) jdk_42_method_59_code (3 : Nat) (Option.some Jvm.ClassFile.FieldType.int)).before args0 about1 = true := code_word (m := ⟨7, 4⟩) (meth := k7m4) (c := k7c4) (by decide +kernel) rfl rfl rfl (by decide +kernel)
set_option maxRecDepth 65536 in
theorem w_c19 : (Jvm.Cond.code ({ cls := "java/util/Objects", name := "checkFromToIndex", desc := "(III)I" } : Jvm.MethodName) jdk_31_method_18_code (3 : Nat) (Option.some Jvm.ClassFile.FieldType.int)).before args0 about1 = true := code_word (m := ⟨10, 1⟩) (meth := k10m1) (c := k10c1) (by decide +kernel) rfl rfl rfl (by decide +kernel)
set_option maxRecDepth 65536 in
theorem w_c20 : (Jvm.Cond.code ({ cls := "jdk/internal/util/Preconditions", name := "checkFromToIndex", desc := "(IIILjava/util/function/BiFunction;)I" } : Jvm.MethodName) jdk_41_method_12_code (4 : Nat) (Option.some Jvm.ClassFile.FieldType.int)).before args0 about1 = true := code_word (m := ⟨11, 1⟩) (meth := k11m1) (c := k11c1) (by decide +kernel) rfl rfl rfl (by decide +kernel)
set_option maxRecDepth 65536 in
theorem w_c21 : (Jvm.Cond.code ({ cls := "java/lang/String", name := "isLatin1", desc := "()Z" } : Jvm.MethodName) jdk_42_method_154_code (1 : Nat) (Option.some Jvm.ClassFile.FieldType.boolean)).before args0 about1 = true := code_word (m := ⟨7, 9⟩) (meth := k7m9) (c := k7c9) (by decide +kernel) rfl rfl rfl (by decide +kernel)
set_option maxRecDepth 65536 in
theorem w_c22 : (Jvm.Cond.code ({ cls := "java/lang/StringUTF16", name := "codePointCount", desc := "([BII)I" } : Jvm.MethodName) jdk_52_method_12_code (3 : Nat) (Option.some Jvm.ClassFile.FieldType.int)).before args0 about1 = true := code_word (m := ⟨9, 7⟩) (meth := k9m7) (c := k9c7) (by decide +kernel) rfl rfl rfl (by decide +kernel)
set_option maxRecDepth 65536 in
theorem w_c23 : (Jvm.Cond.code ({ cls := "java/lang/StringUTF16", name := "codePointCount", desc := "([BIIZ)I" } : Jvm.MethodName) jdk_52_method_11_code (6 : Nat) (Option.some Jvm.ClassFile.FieldType.int)).before args0 about1 = true := code_word (m := ⟨9, 6⟩) (meth := k9m6) (c := k9c6) (by decide +kernel) rfl rfl rfl (by decide +kernel)
set_option maxRecDepth 65536 in
theorem w_c24 : (Jvm.Cond.code ({ cls := "java/lang/Character", name := "isHighSurrogate", desc := "(C)Z" } : Jvm.MethodName) jdk_89_method_14_code (1 : Nat) (Option.some Jvm.ClassFile.FieldType.boolean)).before args0 about1 = true := code_word (m := ⟨12, 0⟩) (meth := k12m0) (c := k12c0) (by decide +kernel) rfl rfl rfl (by decide +kernel)
set_option maxRecDepth 65536 in
theorem w_c25 : (Jvm.Cond.code ({ cls := "java/lang/String", name := "indexOf", desc := "(I)I" } : Jvm.MethodName) jdk_42_method_79_code (2 : Nat) (Option.some Jvm.ClassFile.FieldType.int)).before args0 about1 = true := code_word (m := ⟨7, 5⟩) (meth := k7m5) (c := k7c5) (by decide +kernel) rfl rfl rfl (by decide +kernel)
set_option maxRecDepth 65536 in
theorem w_c26 : (Jvm.Cond.code ({ cls := "java/lang/String", name := "indexOf", desc := "(II)I" } : Jvm.MethodName) jdk_42_method_80_code (3 : Nat) (Option.some Jvm.ClassFile.FieldType.int)).before args0 about1 = true := code_word (m := ⟨7, 6⟩) (meth := k7m6) (c := k7c6) (by decide +kernel) rfl rfl rfl (by decide +kernel)
set_option maxRecDepth 65536 in
theorem w_c27 : (Jvm.Cond.code ({ cls := "java/lang/StringUTF16", name := "indexOf", desc := "([BIII)I" } : Jvm.MethodName) jdk_52_method_40_code (4 : Nat) (Option.some Jvm.ClassFile.FieldType.int)).before args0 about1 = true := code_word (m := ⟨9, 12⟩) (meth := k9m12) (c := k9c12) (by decide +kernel) rfl rfl rfl (by decide +kernel)
set_option maxRecDepth 65536 in
theorem w_c28 : (Jvm.Cond.code ({ cls := "java/lang/Math", name := "max", desc := "(II)I" } : Jvm.MethodName) jdk_29_method_65_code (2 : Nat) (Option.some Jvm.ClassFile.FieldType.int)).before args0 about1 = true := code_word (m := ⟨13, 1⟩) (meth := k13m1) (c := k13c1) (by decide +kernel) rfl rfl rfl (by decide +kernel)
set_option maxRecDepth 65536 in
theorem w_c29 : (Jvm.Cond.code ({ cls := "java/lang/Math", name := "min", desc := "(II)I" } : Jvm.MethodName) jdk_29_method_69_code (2 : Nat) (Option.some Jvm.ClassFile.FieldType.int)).before args0 about1 = true := code_word (m := ⟨13, 2⟩) (meth := k13m2) (c := k13c2) (by decide +kernel) rfl rfl rfl (by decide +kernel)
set_option maxRecDepth 65536 in
theorem w_c30 : (Jvm.Cond.code ({ cls := "java/lang/StringUTF16", name := "indexOfChar", desc := "([BIII)I" } : Jvm.MethodName) jdk_52_method_47_code (4 : Nat) (Option.some Jvm.ClassFile.FieldType.int)).before args0 about1 = true := code_word (m := ⟨9, 13⟩) (meth := k9m13) (c := k9c13) (by decide +kernel) rfl rfl rfl (by decide +kernel)
set_option maxRecDepth 65536 in
theorem w_c31 : (Jvm.Cond.code ({ cls := "java/lang/StringUTF16", name := "checkBoundsBeginEnd", desc := "(II[B)V" } : Jvm.MethodName) jdk_52_method_93_code (3 : Nat) (Option.none : Option Jvm.ClassFile.FieldType)).before args0 about1 = true := code_word (m := ⟨9, 15⟩) (meth := k9m15) (c := k9c15) (by decide +kernel) rfl rfl rfl (by decide +kernel)
set_option maxRecDepth 65536 in
theorem w_c32 : (Jvm.Cond.code ({ cls := "java/lang/StringUTF16", name := "length", desc := "([B)I" } : Jvm.MethodName) jdk_52_method_6_code (1 : Nat) (Option.some Jvm.ClassFile.FieldType.int)).before args0 about1 = true := code_word (m := ⟨9, 5⟩) (meth := k9m5) (c := k9c5) (by decide +kernel) rfl rfl rfl (by decide +kernel)
set_option maxRecDepth 65536 in
theorem w_c33 : (Jvm.Cond.code ({ cls := "java/lang/String", name := "checkBoundsBeginEnd", desc := "(III)V" } : Jvm.MethodName) jdk_42_method_158_code (3 : Nat) (Option.none : Option Jvm.ClassFile.FieldType)).before args0 about1 = true := code_word (m := ⟨7, 10⟩) (meth := k7m10) (c := k7c10) (by decide +kernel) rfl rfl rfl (by decide +kernel)
set_option maxRecDepth 65536 in
theorem w_c34 : (Jvm.Cond.code ({ cls := "java/lang/StringUTF16", name := "indexOfCharUnsafe", desc := "([BIII)I" } : Jvm.MethodName) jdk_52_method_48_code (5 : Nat) (Option.some Jvm.ClassFile.FieldType.int)).before args0 about1 = true := code_word (m := ⟨9, 14⟩) (meth := k9m14) (c := k9c14) (by decide +kernel) rfl rfl rfl (by decide +kernel)
set_option maxRecDepth 65536 in
theorem w_c35 : (Jvm.Cond.code ({ cls := "com/example/coterie/coterie/job/JobIsWellFormedKeyPinLaw", name := "longKey", desc := "(CCCC)Ljava/lang/String;" } : Jvm.MethodName) method_5_code (6 : Nat) (Option.some (Jvm.ClassFile.FieldType.object "java/lang/String"))).before args0 about1 = true := code_word (m := ⟨1, 4⟩) (meth := k1m4) (c := k1c4) (by decide +kernel) rfl rfl rfl (by decide +kernel)
set_option maxRecDepth 65536 in
theorem w_c36 : (Jvm.Cond.code ({ cls := "com/example/coterie/coterie/job/JobIsWellFormedKeyPinLaw", name := "pair", desc := "(CC)I" } : Jvm.MethodName) method_3_code (4 : Nat) (Option.some Jvm.ClassFile.FieldType.int)).before args0 about1 = true := code_word (m := ⟨1, 2⟩) (meth := k1m2) (c := k1c2) (by decide +kernel) rfl rfl rfl (by decide +kernel)
set_option maxRecDepth 65536 in
theorem w_c37 : (Jvm.Cond.code ({ cls := "java/lang/Character", name := "isLowSurrogate", desc := "(C)Z" } : Jvm.MethodName) jdk_89_method_15_code (1 : Nat) (Option.some Jvm.ClassFile.FieldType.boolean)).before args0 about1 = true := code_word (m := ⟨12, 1⟩) (meth := k12m1) (c := k12c1) (by decide +kernel) rfl rfl rfl (by decide +kernel)
set_option maxRecDepth 65536 in
theorem w_c38 : (Jvm.Cond.code ({ cls := "java/lang/StringLatin1", name := "indexOf", desc := "([BIII)I" } : Jvm.MethodName) jdk_43_method_22_code (4 : Nat) (Option.some Jvm.ClassFile.FieldType.int)).before args0 about1 = true := code_word (m := ⟨14, 2⟩) (meth := k14m2) (c := k14c2) (by decide +kernel) rfl rfl rfl (by decide +kernel)
set_option maxRecDepth 65536 in
theorem w_c39 : (Jvm.Cond.code ({ cls := "java/lang/StringLatin1", name := "canEncode", desc := "(I)Z" } : Jvm.MethodName) jdk_43_method_4_code (1 : Nat) (Option.some Jvm.ClassFile.FieldType.boolean)).before args0 about1 = true := code_word (m := ⟨14, 1⟩) (meth := k14m1) (c := k14c1) (by decide +kernel) rfl rfl rfl (by decide +kernel)
set_option maxRecDepth 65536 in
theorem w_c40 : (Jvm.Cond.code ({ cls := "java/lang/StringLatin1", name := "indexOfChar", desc := "([BIII)I" } : Jvm.MethodName) jdk_43_method_23_code (6 : Nat) (Option.some Jvm.ClassFile.FieldType.int)).before args0 about1 = true := code_word (m := ⟨14, 3⟩) (meth := k14m3) (c := k14c3) (by decide +kernel) rfl rfl rfl (by decide +kernel)
def codes1 : List Jvm.Cond := [Jvm.Cond.code x code maxLocals ret, Jvm.Cond.code ({ cls := "com/example/coterie/coterie/job/JobIsWellFormedKeyPinLaw", name := "pick", desc := "(I)C" } : Jvm.MethodName) method_2_code (3 : Nat) (Option.some Jvm.ClassFile.FieldType.char), Jvm.Cond.code ({ cls := "com/example/coterie/coterie/job/JobIsWellFormedKeyPinLaw", name := "shortKey", desc := "(ICCCC)Ljava/lang/String;" } : Jvm.MethodName) method_4_code (5 : Nat) (Option.some (Jvm.ClassFile.FieldType.object "java/lang/String")), Jvm.Cond.code ({ cls := "java/lang/String", name := "<init>", desc := "([C)V" } : Jvm.MethodName) jdk_42_method_3_code (2 : Nat) (Option.none : Option Jvm.ClassFile.FieldType), Jvm.Cond.code ({ cls := "java/lang/String", name := "<init>", desc := "([CIILjava/lang/Void;)V" } : Jvm.MethodName) jdk_42_method_149_code (6 : Nat) (Option.none : Option Jvm.ClassFile.FieldType), Jvm.Cond.code ({ cls := "java/lang/Object", name := "<init>", desc := "()V" } : Jvm.MethodName) object_method_1_code (1 : Nat) (Option.none : Option Jvm.ClassFile.FieldType), Jvm.Cond.code ({ cls := "com/example/coterie/coterie/job/Job", name := "isWellFormedKey", desc := "(Ljava/lang/String;)Z" } : Jvm.MethodName) prog_13_method_4_code (1 : Nat) (Option.some Jvm.ClassFile.FieldType.boolean), Jvm.Cond.code ({ cls := "java/lang/String", name := "isEmpty", desc := "()Z" } : Jvm.MethodName) jdk_42_method_55_code (1 : Nat) (Option.some Jvm.ClassFile.FieldType.boolean), Jvm.Cond.code ({ cls := "java/lang/StringUTF16", name := "compress", desc := "([CII)[B" } : Jvm.MethodName) jdk_52_method_16_code (6 : Nat) (Option.some (Jvm.ClassFile.FieldType.array Jvm.ClassFile.FieldType.byte)), Jvm.Cond.code ({ cls := "java/lang/StringUTF16", name := "compress", desc := "([CI[BII)I" } : Jvm.MethodName) jdk_52_method_21_code (7 : Nat) (Option.some Jvm.ClassFile.FieldType.int), Jvm.Cond.code ({ cls := "java/lang/StringUTF16", name := "toBytes", desc := "([CII)[B" } : Jvm.MethodName) jdk_52_method_14_code (5 : Nat) (Option.some (Jvm.ClassFile.FieldType.array Jvm.ClassFile.FieldType.byte)), Jvm.Cond.code ({ cls := "java/lang/StringUTF16", name := "newBytesFor", desc := "(I)[B" } : Jvm.MethodName) jdk_52_method_2_code (1 : Nat) (Option.some (Jvm.ClassFile.FieldType.array Jvm.ClassFile.FieldType.byte)), Jvm.Cond.code ({ cls := "java/lang/StringUTF16", name := "newBytesLength", desc := "(I)I" } : Jvm.MethodName) jdk_52_method_3_code (1 : Nat) (Option.some Jvm.ClassFile.FieldType.int), Jvm.Cond.code ({ cls := "java/lang/StringUTF16", name := "putChar", desc := "([BII)V" } : Jvm.MethodName) jdk_52_method_4_code (3 : Nat) (Option.none : Option Jvm.ClassFile.FieldType), Jvm.Cond.code ({ cls := "java/lang/StringUTF16", name := "getChar", desc := "([BI)C" } : Jvm.MethodName) jdk_52_method_5_code (2 : Nat) (Option.some Jvm.ClassFile.FieldType.char), Jvm.Cond.code ({ cls := "java/lang/StringUTF16", name := "coderFromArrayLen", desc := "([BI)B" } : Jvm.MethodName) jdk_52_method_15_code (2 : Nat) (Option.some Jvm.ClassFile.FieldType.byte), Jvm.Cond.code ({ cls := "java/lang/String", name := "length", desc := "()I" } : Jvm.MethodName) jdk_42_method_54_code (1 : Nat) (Option.some Jvm.ClassFile.FieldType.int), Jvm.Cond.code ({ cls := "java/lang/String", name := "coder", desc := "()B" } : Jvm.MethodName) jdk_42_method_152_code (1 : Nat) (Option.some Jvm.ClassFile.FieldType.byte), Jvm.Cond.code ({ cls := "java/lang/String", name := "codePointCount", desc := "(II)I" } : Jvm.MethodName) jdk_42_method_59_code (3 : Nat) (Option.some Jvm.ClassFile.FieldType.int), Jvm.Cond.code ({ cls := "java/util/Objects", name := "checkFromToIndex", desc := "(III)I" } : Jvm.MethodName) jdk_31_method_18_code (3 : Nat) (Option.some Jvm.ClassFile.FieldType.int), Jvm.Cond.code ({ cls := "jdk/internal/util/Preconditions", name := "checkFromToIndex", desc := "(IIILjava/util/function/BiFunction;)I" } : Jvm.MethodName) jdk_41_method_12_code (4 : Nat) (Option.some Jvm.ClassFile.FieldType.int), Jvm.Cond.code ({ cls := "java/lang/String", name := "isLatin1", desc := "()Z" } : Jvm.MethodName) jdk_42_method_154_code (1 : Nat) (Option.some Jvm.ClassFile.FieldType.boolean), Jvm.Cond.code ({ cls := "java/lang/StringUTF16", name := "codePointCount", desc := "([BII)I" } : Jvm.MethodName) jdk_52_method_12_code (3 : Nat) (Option.some Jvm.ClassFile.FieldType.int), Jvm.Cond.code ({ cls := "java/lang/StringUTF16", name := "codePointCount", desc := "([BIIZ)I" } : Jvm.MethodName) jdk_52_method_11_code (6 : Nat) (Option.some Jvm.ClassFile.FieldType.int), Jvm.Cond.code ({ cls := "java/lang/Character", name := "isHighSurrogate", desc := "(C)Z" } : Jvm.MethodName) jdk_89_method_14_code (1 : Nat) (Option.some Jvm.ClassFile.FieldType.boolean), Jvm.Cond.code ({ cls := "java/lang/String", name := "indexOf", desc := "(I)I" } : Jvm.MethodName) jdk_42_method_79_code (2 : Nat) (Option.some Jvm.ClassFile.FieldType.int), Jvm.Cond.code ({ cls := "java/lang/String", name := "indexOf", desc := "(II)I" } : Jvm.MethodName) jdk_42_method_80_code (3 : Nat) (Option.some Jvm.ClassFile.FieldType.int), Jvm.Cond.code ({ cls := "java/lang/StringUTF16", name := "indexOf", desc := "([BIII)I" } : Jvm.MethodName) jdk_52_method_40_code (4 : Nat) (Option.some Jvm.ClassFile.FieldType.int), Jvm.Cond.code ({ cls := "java/lang/Math", name := "max", desc := "(II)I" } : Jvm.MethodName) jdk_29_method_65_code (2 : Nat) (Option.some Jvm.ClassFile.FieldType.int), Jvm.Cond.code ({ cls := "java/lang/Math", name := "min", desc := "(II)I" } : Jvm.MethodName) jdk_29_method_69_code (2 : Nat) (Option.some Jvm.ClassFile.FieldType.int), Jvm.Cond.code ({ cls := "java/lang/StringUTF16", name := "indexOfChar", desc := "([BIII)I" } : Jvm.MethodName) jdk_52_method_47_code (4 : Nat) (Option.some Jvm.ClassFile.FieldType.int), Jvm.Cond.code ({ cls := "java/lang/StringUTF16", name := "checkBoundsBeginEnd", desc := "(II[B)V" } : Jvm.MethodName) jdk_52_method_93_code (3 : Nat) (Option.none : Option Jvm.ClassFile.FieldType), Jvm.Cond.code ({ cls := "java/lang/StringUTF16", name := "length", desc := "([B)I" } : Jvm.MethodName) jdk_52_method_6_code (1 : Nat) (Option.some Jvm.ClassFile.FieldType.int), Jvm.Cond.code ({ cls := "java/lang/String", name := "checkBoundsBeginEnd", desc := "(III)V" } : Jvm.MethodName) jdk_42_method_158_code (3 : Nat) (Option.none : Option Jvm.ClassFile.FieldType), Jvm.Cond.code ({ cls := "java/lang/StringUTF16", name := "indexOfCharUnsafe", desc := "([BIII)I" } : Jvm.MethodName) jdk_52_method_48_code (5 : Nat) (Option.some Jvm.ClassFile.FieldType.int), Jvm.Cond.code ({ cls := "com/example/coterie/coterie/job/JobIsWellFormedKeyPinLaw", name := "longKey", desc := "(CCCC)Ljava/lang/String;" } : Jvm.MethodName) method_5_code (6 : Nat) (Option.some (Jvm.ClassFile.FieldType.object "java/lang/String")), Jvm.Cond.code ({ cls := "com/example/coterie/coterie/job/JobIsWellFormedKeyPinLaw", name := "pair", desc := "(CC)I" } : Jvm.MethodName) method_3_code (4 : Nat) (Option.some Jvm.ClassFile.FieldType.int), Jvm.Cond.code ({ cls := "java/lang/Character", name := "isLowSurrogate", desc := "(C)Z" } : Jvm.MethodName) jdk_89_method_15_code (1 : Nat) (Option.some Jvm.ClassFile.FieldType.boolean), Jvm.Cond.code ({ cls := "java/lang/StringLatin1", name := "indexOf", desc := "([BIII)I" } : Jvm.MethodName) jdk_43_method_22_code (4 : Nat) (Option.some Jvm.ClassFile.FieldType.int), Jvm.Cond.code ({ cls := "java/lang/StringLatin1", name := "canEncode", desc := "(I)Z" } : Jvm.MethodName) jdk_43_method_4_code (1 : Nat) (Option.some Jvm.ClassFile.FieldType.boolean), Jvm.Cond.code ({ cls := "java/lang/StringLatin1", name := "indexOfChar", desc := "([BIII)I" } : Jvm.MethodName) jdk_43_method_23_code (6 : Nat) (Option.some Jvm.ClassFile.FieldType.int)]
set_option maxRecDepth 65536 in
theorem codes_eq : words1.filter isCode = codes1 := rfl
theorem w_codes : ∀ c ∈ words1.filter isCode, c.before args0 about1 = true := by
  rw [codes_eq]
  intro c hc
  simp only [codes1, List.mem_cons, List.not_mem_nil, or_false] at hc
  rcases hc with rfl | rfl | rfl | rfl | rfl | rfl | rfl | rfl | rfl | rfl | rfl | rfl | rfl | rfl | rfl | rfl | rfl | rfl | rfl | rfl | rfl | rfl | rfl | rfl | rfl | rfl | rfl | rfl | rfl | rfl | rfl | rfl | rfl | rfl | rfl | rfl | rfl | rfl | rfl | rfl | rfl
  · exact w_c0
  · exact w_c1
  · exact w_c2
  · exact w_c3
  · exact w_c4
  · exact w_c5
  · exact w_c6
  · exact w_c7
  · exact w_c8
  · exact w_c9
  · exact w_c10
  · exact w_c11
  · exact w_c12
  · exact w_c13
  · exact w_c14
  · exact w_c15
  · exact w_c16
  · exact w_c17
  · exact w_c18
  · exact w_c19
  · exact w_c20
  · exact w_c21
  · exact w_c22
  · exact w_c23
  · exact w_c24
  · exact w_c25
  · exact w_c26
  · exact w_c27
  · exact w_c28
  · exact w_c29
  · exact w_c30
  · exact w_c31
  · exact w_c32
  · exact w_c33
  · exact w_c34
  · exact w_c35
  · exact w_c36
  · exact w_c37
  · exact w_c38
  · exact w_c39
  · exact w_c40
set_option maxRecDepth 65536 in
theorem w_t1 : (words1.take 24).all (fun c => isCode c || c.before args0 about1) = true := by decide +kernel
set_option maxRecDepth 65536 in
theorem w_t2 : ((words1.drop 24).take 24).all (fun c => isCode c || c.before args0 about1) = true := by decide +kernel
set_option maxRecDepth 65536 in
theorem w_t3 : (((words1.drop 24).drop 24).take 24).all (fun c => isCode c || c.before args0 about1) = true := by decide +kernel
set_option maxRecDepth 65536 in
theorem w_t4 : ((((words1.drop 24).drop 24).drop 24).take 24).all (fun c => isCode c || c.before args0 about1) = true := by decide +kernel
set_option maxRecDepth 65536 in
theorem w_t5 : (((((words1.drop 24).drop 24).drop 24).drop 24).take 24).all (fun c => isCode c || c.before args0 about1) = true := by decide +kernel
set_option maxRecDepth 65536 in
theorem w_t6 : ((((((words1.drop 24).drop 24).drop 24).drop 24).drop 24).take 24).all (fun c => isCode c || c.before args0 about1) = true := by decide +kernel
set_option maxRecDepth 65536 in
theorem w_t7 : (((((((words1.drop 24).drop 24).drop 24).drop 24).drop 24).drop 24).take 24).all (fun c => isCode c || c.before args0 about1) = true := by decide +kernel
set_option maxRecDepth 65536 in
theorem w_t8 : (((((((words1.drop 24).drop 24).drop 24).drop 24).drop 24).drop 24).drop 24).all (fun c => isCode c || c.before args0 about1) = true := by decide +kernel
theorem w_tables : (allAtoms (Jvm.Cond.code x code maxLocals ret :: tables_1)).before args0 about1 = true := by
  rw [allAtoms_all]
  show words1.all (fun c => c.before args0 about1) = true
  refine all_split ?_ w_codes
  rw [← List.take_append_drop 24 words1, List.all_append, w_t1, ← List.take_append_drop 24 (words1.drop 24), List.all_append, w_t2, ← List.take_append_drop 24 ((words1.drop 24).drop 24), List.all_append, w_t3, ← List.take_append_drop 24 (((words1.drop 24).drop 24).drop 24), List.all_append, w_t4, ← List.take_append_drop 24 ((((words1.drop 24).drop 24).drop 24).drop 24), List.all_append, w_t5, ← List.take_append_drop 24 (((((words1.drop 24).drop 24).drop 24).drop 24).drop 24), List.all_append, w_t6, ← List.take_append_drop 24 ((((((words1.drop 24).drop 24).drop 24).drop 24).drop 24).drop 24), List.all_append, w_t7, w_t8]
  rfl
set_option maxRecDepth 65536 in
theorem w_rest : rest_1_c.before args0 about1 = true := by decide +kernel
set_option maxRecDepth 65536 in
theorem w_case : (Jvm.Cond.and given_1 narrow_1).before args0 about1 = true := by decide +kernel
set_option maxRecDepth 65536 in
theorem w_consts : constsHeld consts_1 about1 := Jvm.Lit.constsHeldB_iff.mp (by decide +kernel)
theorem w_applies : (headSpec (Jvm.Cond.code x code maxLocals ret :: tables_1) room_1).applies x e0.platform about1 = true :=
  (Spec.applies_iff w_frames).mpr ⟨w_running, w_runnable, w_alone, w_named, w_hears, w_ripe, w_room, w_tables⟩
theorem atStart : AtStart classFile x code maxLocals ret World_1 tables_1 room_1 Calls_1 rest_1 Pre_1 launch0 p0 e0 about1 theMethod args0 below0 :=
  ⟨lists_1, trivial, launch0.admits_env _ _ _, launch0.least_env, fairChoices_fair.cas, fairChoices_fair.clock, w_frames, w_args, w_heap, w_applies, ⟨w_consts, trivial⟩, w_rest, w_case⟩
end start1
theorem witness_1 : WitnessClaimed_1 := ⟨start1.p0, start1.e0, start1.about1, start1.theMethod, start1.args0, start1.below0, start1.atStart⟩
end Jvm.Pilot.@@N@@
