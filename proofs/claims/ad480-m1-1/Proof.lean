import JvmDerived
import JvmDerived.Pilot.@@N@@Statement
import JvmDerived.Pilot.@@N@@Code
set_option linter.unusedVariables false
set_option linter.unusedSimpArgs false
@@BLOCK:NumsL.lean.txt@@
namespace Jvm.RoadKit
open Sem ClassFile Op Lib Jvm.Stand Jvm.Free Jvm.LawKit
section New
variable {p : Program} {l : Launch} {e : Env} {R : Room} {s : State} {m : MethodId} {args : Array Value} {below : List Frame} {meth : Method} {c : Code} {T : State} {locs : List Loc} {cells slots : Nat}
theorem retI (X : Stand p l e R s m args below meth c T locs cells slots) (hx : p.tables.exec = Jvm.exec) {pc : Nat} {Ls : Array Slot} {z : Int32} {rest : List Value} (hret : meth.sig.returnType = some .int) (hd : decode c.code pc = .ok (.ireturn, 1)) {fs : List Frame}
    (hl : ∀ (f : JFrame) (acts : List Action), f.method = m → f.locked = none → f.entered = [] → (doReturn e (T.setTop f) acts (some (.int z))).1 = T.setFrames fs) : Steps p.tables e below (T.setTop (mkF m pc Ls (.int z :: rest))) (T.setFrames fs) := by
  have hm' : T.vm.method? m = some meth := X.method'
  have hn : narrow .int (.int z) = .int z := rfl
  show Steps p.tables e below (T.setTop { method := m, pc := pc, locals := Ls, stack := _ :: rest, locked := none }) _
  jvm_step X.here [X.here.top, hx, hd, hm', hret, hn]
  first | (intro acts; rw [hl _ acts rfl rfl rfl]) | rw [hl _ _ rfl rfl rfl]
  exact Steps.refl _
end New
end Jvm.RoadKit
/- laws to paste: Road.backV, StrChars.pair_says, StrChars.narrow_ch, StrChars.chr8_lo8 (cut by pick.py; bodies as the Statement names them) -/
namespace Jvm.Pilot.@@N@@
namespace StrChars
open Jvm Sem ClassFile Op Lib Jvm.Stand Jvm.Free.XT Jvm.Free.ALB Jvm.Free.JM Jvm.Free
open Jvm.Lib.Cold (StaticIs)
/-- a char array whose places are chars -/
def Ch (a : Addr) (A : Cell) (U : State) : Prop := Arr .char a A U ∧ Typed .char A
theorem Ch.mv {a : Addr} {A : Cell} {U U' : State} (h : Ch a A U) (hal : U.vm.Alike U'.vm) (hh : U'.heap = U.heap) : Ch a A U' := ⟨h.1.mv hal hh, h.2⟩
theorem Ch.keep {a : Addr} {A : Cell} {U U' : State} (h : Ch a A U) (hal : U.vm.Alike U'.vm) (hk : U'.heap[a]? = some A) : Ch a A U' := ⟨h.1.keep hal hk, h.2⟩
/-- what place i of a char[]'s cell holds -/
def cv (A : Cell) (i : Nat) : Int32 := match A.slots[i]? with | some (.int x) => x | _ => 0
theorem Ch.get {a : Addr} {A : Cell} {U : State} (h : Ch a A U) {i : Nat} (hi : i < A.slots.size) : A.slots[i]? = some (.int (cv A i)) := by
  have e := Array.getElem?_eq_getElem hi
  have f := h.2 i _ e
  unfold cv; rw [e]
  generalize A.slots[i] = v at f
  cases v <;> simp [fits] at f ⊢
/-- the byte that i2b leaves of a char -/
def lo8 (x : Int32) : Int32 := x.toInt8.toInt32
theorem fits_lo8 (y : Int32) : fits .byte (.int (lo8 y)) = true := by
  have h1 := y.toInt8.le_toInt
  have h2 := y.toInt8.toInt_lt
  simp only [lo8, fits, Bool.and_eq_true, decide_eq_true_eq, Int32.le_iff_toInt_le, Int8.toInt_toInt32, show (-128 : Int32).toInt = -128 from by decide, show (127 : Int32).toInt = 127 from by decide]
  omega
/-- A' is A but that each place j of lo .. hi - 1 holds f j -/
def Laid (A A' : Cell) (lo hi : Nat) (f : Nat → Value) : Prop := A'.cls = A.cls ∧ A'.vm = A.vm ∧ A'.slots.size = A.slots.size ∧ ∀ i, A'.slots[i]? = if lo ≤ i ∧ i < hi then some (f i) else A.slots[i]?
theorem Laid.zero (A : Cell) (lo : Nat) (f : Nat → Value) : Laid A A lo (lo + 0) f := ⟨rfl, rfl, rfl, fun i => by rw [if_neg (by omega)]⟩
theorem Laid.step {A Ak : Cell} {lo k : Nat} {f : Nat → Value} {v : Value} (h : Laid A Ak lo k f) (hlo : lo ≤ k) (hk : k < Ak.slots.size) (hv : v = f k) : Laid A (Ak.setSlot k v) lo (k + 1) f := by
  refine ⟨h.1, h.2.1, by simpa [Cell.setSlot] using h.2.2.1, fun i => ?_⟩
  by_cases e : k = i
  · subst e; rw [Cell.slots_setSlot_self v hk, if_pos (by omega), hv]
  · rw [Cell.slots_setSlot_ne v e, h.2.2.2 i]
    by_cases q : lo ≤ i ∧ i < k
    · rw [if_pos q, if_pos (by omega)]
    · rw [if_neg q, if_neg (by omega)]
def U16 : String := "java/lang/StringUTF16"
namespace Cmp5
def yN : MethodName := ⟨"java/lang/StringUTF16", "compress", "([CI[BII)I"⟩
abbrev yB : ByteArray := jdk_52_method_21_code
theorem d0 : decode yB 0 = .ok (.iconst 0, 1) := by decide +kernel
theorem d1 : decode yB 1 = .ok (.istore 5, 2) := by decide +kernel
theorem d3 : decode yB 3 = .ok (.iload 5, 2) := by decide +kernel
theorem d5 : decode yB 5 = .ok (.iload 4, 2) := by decide +kernel
theorem d7 : decode yB 7 = .ok (.if_icmp (.ge) 37, 3) := by decide +kernel
theorem d10 : decode yB 10 = .ok (.aload_n 0, 1) := by decide +kernel
theorem d11 : decode yB 11 = .ok (.iload_n 1, 1) := by decide +kernel
theorem d12 : decode yB 12 = .ok (.caload, 1) := by decide +kernel
theorem d13 : decode yB 13 = .ok (.istore 6, 2) := by decide +kernel
theorem d15 : decode yB 15 = .ok (.iload 6, 2) := by decide +kernel
theorem d17 : decode yB 17 = .ok (.sipush 255, 3) := by decide +kernel
theorem d20 : decode yB 20 = .ok (.if_icmp (.le) 6, 3) := by decide +kernel
theorem d26 : decode yB 26 = .ok (.aload_n 2, 1) := by decide +kernel
theorem d27 : decode yB 27 = .ok (.iload_n 3, 1) := by decide +kernel
theorem d28 : decode yB 28 = .ok (.iload 6, 2) := by decide +kernel
theorem d30 : decode yB 30 = .ok (.i2b, 1) := by decide +kernel
theorem d31 : decode yB 31 = .ok (.bastore, 1) := by decide +kernel
theorem d32 : decode yB 32 = .ok (.iinc 1 1, 3) := by decide +kernel
theorem d35 : decode yB 35 = .ok (.iinc 3 1, 3) := by decide +kernel
theorem d38 : decode yB 38 = .ok (.iinc 5 1, 3) := by decide +kernel
theorem d41 : decode yB 41 = .ok (.goto (-38), 3) := by decide +kernel
theorem d44 : decode yB 44 = .ok (.iload 4, 2) := by decide +kernel
theorem d46 : decode yB 46 = .ok (.ireturn, 1) := by decide +kernel
def site : List Cond := []
def tab : Cond := tabOf yN yB 7 (some .int) site
def P (b : Addr) (A : Cell) (d : Addr) (B : Cell) (o q len : Nat) (args : Array Value) (s : State) : Prop := args = #[.ref b, .int (Int32.ofNat o), .ref d, .int (Int32.ofNat q), .int (Int32.ofNat len)] ∧ Ch b A s ∧ Arr .byte d B s ∧ b ≠ d ∧ o + len ≤ A.slots.size ∧ q + len ≤ B.slots.size ∧ ∀ i, i < len → ¬ 255 < cv A (o + i)
def E (b : Addr) (A : Cell) (d : Addr) (B : Cell) (o q len : Nat) (r : Option Value) (s u : State) : Prop := r = some (.int (Int32.ofNat len)) ∧ ∃ B', Put d B' s u ∧ Laid B B' q (q + len) (fun j => Value.int (lo8 (cv A (o + (j - q)))))
/-- no char of the range above 255: len; the places written hold each char's low byte -/
theorem law (l : Launch) (b : Addr) (A : Cell) (d : Addr) (B : Cell) (o q len : Nat) : Law l yN 5 5 0 0 yB 7 (some .int) site (P b A d B o q len) (E b A d B o q len) (copyLocs d q len) 0 0 := by
  refine Law.of_walk (plainFor_of_name (by decide +kernel)) (by decide +kernel) (by decide +kernel) (by decide) (fun _ _ h => by rw [h.1]; rfl) (fun _ U U' hal hh h => ⟨h.1, h.2.1.mv hal hh, h.2.2.1.mv hal hh, h.2.2.2⟩) (fun r U U' V V' h1 hal h2 h => ⟨h.1, h.2.elim fun B' q => ⟨B', q.1.mv h1 h2, q.2⟩⟩) ?_
  intro p e s m args below meth c s₁ X0 hexec hbytes hml hret hlk hnm hown hh0 W hP
  obtain ⟨rfl, hA, hB, hne, l1, l2, hp⟩ := hP
  have c1 : Steps p.tables e below (s₁.setTop (entryFrame m #[.ref b, .int (Int32.ofNat o), .ref d, .int (Int32.ofNat q), .int (Int32.ofNat len)] 7)) (s₁.setTop (mkF m 0 #[.val (.ref b), .val (.int (Int32.ofNat o)), .val (.ref d), .val (.int (Int32.ofNat q)), .val (.int (Int32.ofNat len)), .unset, .unset] [])) := entry rfl
  have hA0 := hA.1.mv X0.warmed.alike hh0
  have hB0 := hB.mv X0.warmed.alike hh0
  have a31 := hA.1.2.2.2
  have c2 : Steps p.tables e below (s₁.setTop (entryFrame m #[.ref b, .int (Int32.ofNat o), .ref d, .int (Int32.ofNat q), .int (Int32.ofNat len)] 7)) (s₁.setTop (mkF m 3 #[.val (.ref b), .val (.int (Int32.ofNat o)), .val (.ref d), .val (.int (Int32.ofNat q)), .val (.int (Int32.ofNat len)), .val (.int 0), .unset] [])) := c1.trans (by
    refine iconstV X0.here hexec rfl 0 (hb hbytes d0) (by decide) ?_
    refine XS.istore X0.here hexec rfl (hb hbytes d1) rfl rfl ?_
    exact Steps.refl _)
  have loop : ∀ (r i : Nat), i + r = len → ∀ (z : Slot), (z = .unset ∨ ∃ w, z = .val w ∧ w.category = 1) → ∀ (Tl : State) (Bk : Cell), Stand p l e { frames := 0, locals := 0, cells := 0, slots := 0 } s m #[.ref b, .int (Int32.ofNat o), .ref d, .int (Int32.ofNat q), .int (Int32.ofNat len)] below meth c Tl ([] ++ copyLocs d q i) 0 0 → Put d Bk s₁ Tl → Laid B Bk q (q + i) (fun j => Value.int (lo8 (cv A (o + (j - q))))) →
      Steps p.tables e below (s₁.setTop (entryFrame m #[.ref b, .int (Int32.ofNat o), .ref d, .int (Int32.ofNat q), .int (Int32.ofNat len)] 7)) (Tl.setTop (mkF m 3 #[.val (.ref b), .val (.int (Int32.ofNat (o + i))), .val (.ref d), .val (.int (Int32.ofNat (q + i))), .val (.int (Int32.ofNat len)), .val (.int (Int32.ofNat i)), z] [])) → ∃ (T' : State) (B' : Cell) (z' : Slot), Stand p l e { frames := 0, locals := 0, cells := 0, slots := 0 } s m #[.ref b, .int (Int32.ofNat o), .ref d, .int (Int32.ofNat q), .int (Int32.ofNat len)] below meth c T' ([] ++ copyLocs d q len) 0 0 ∧ Put d B' s₁ T' ∧ Laid B B' q (q + len) (fun j => Value.int (lo8 (cv A (o + (j - q))))) ∧
      Steps p.tables e below (s₁.setTop (entryFrame m #[.ref b, .int (Int32.ofNat o), .ref d, .int (Int32.ofNat q), .int (Int32.ofNat len)] 7)) (T'.setTop (mkF m 3 #[.val (.ref b), .val (.int (Int32.ofNat (o + len))), .val (.ref d), .val (.int (Int32.ofNat (q + len))), .val (.int (Int32.ofNat len)), .val (.int (Int32.ofNat len)), z'] [])) := by
    intro r
    induction r with
    | zero =>
      intro i hi z hz Tl Bk Xl pl fl cl
      have hil : i = len := by omega
      rw [hil] at Xl fl cl
      exact ⟨Tl, Bk, z, Xl, pl, fl, cl⟩
    | succ r ih =>
      intro i hi z hz Tl Bk Xl pl fl cl
      have all := X0.warmed.alike.symm.trans Xl.warmed.alike
      have hAl := hA0.keep all (pl.other hne hA0.1)
      have hBk := hB0.like all pl.1 fl.1 fl.2.1 fl.2.2.1
      have hlt : q + i < Bk.slots.size := by rw [fl.2.2.1]; omega
      have c3 : Steps p.tables e below (s₁.setTop (entryFrame m #[.ref b, .int (Int32.ofNat o), .ref d, .int (Int32.ofNat q), .int (Int32.ofNat len)] 7)) (Tl.setTop (mkF m 12 #[.val (.ref b), .val (.int (Int32.ofNat (o + i))), .val (.ref d), .val (.int (Int32.ofNat (q + i))), .val (.int (Int32.ofNat len)), .val (.int (Int32.ofNat i)), z] [.int (Int32.ofNat (o + i)), .ref b])) := cl.trans (by
        refine XS.iload Xl.here hexec rfl (hb hbytes d3) rfl ?_
        refine XS.iload Xl.here hexec rfl (hb hbytes d5) rfl ?_
        refine XS.icmpNo Xl.here hexec rfl (hb hbytes d7) rfl (ii_ge_f (lt32 (by omega) (by omega))) ?_
        refine XS.aloadN Xl.here hexec rfl (hb hbytes d10) rfl rfl ?_
        refine XS.iloadN Xl.here hexec rfl (hb hbytes d11) rfl ?_
        exact Steps.refl _)
      have c4 : Steps p.tables e below (s₁.setTop (entryFrame m #[.ref b, .int (Int32.ofNat o), .ref d, .int (Int32.ofNat q), .int (Int32.ofNat len)] 7)) (Tl.setTop (mkF m 13 #[.val (.ref b), .val (.int (Int32.ofNat (o + i))), .val (.ref d), .val (.int (Int32.ofNat (q + i))), .val (.int (Int32.ofNat len)), .val (.int (Int32.ofNat i)), z] [.int (cv A (o + i))])) := c3.trans (by
        refine Xl.aget hexec hAl rfl (hA.get (i := o + i) (by omega)) rfl rfl (hb hbytes d12) ?_
        exact Steps.refl _)
      have c5 : Steps p.tables e below (s₁.setTop (entryFrame m #[.ref b, .int (Int32.ofNat o), .ref d, .int (Int32.ofNat q), .int (Int32.ofNat len)] 7)) (Tl.setTop (mkF m 15 #[.val (.ref b), .val (.int (Int32.ofNat (o + i))), .val (.ref d), .val (.int (Int32.ofNat (q + i))), .val (.int (Int32.ofNat len)), .val (.int (Int32.ofNat i)), .val (.int (cv A (o + i)))] [])) := c4.trans (by
        refine XS.istoreS Xl.here hexec rfl (hb hbytes d13) rfl rfl hz ?_
        exact Steps.refl _)
      have c6 : Steps p.tables e below (s₁.setTop (entryFrame m #[.ref b, .int (Int32.ofNat o), .ref d, .int (Int32.ofNat q), .int (Int32.ofNat len)] 7)) (Tl.setTop (mkF m 31 #[.val (.ref b), .val (.int (Int32.ofNat (o + i))), .val (.ref d), .val (.int (Int32.ofNat (q + i))), .val (.int (Int32.ofNat len)), .val (.int (Int32.ofNat i)), .val (.int (cv A (o + i)))] [.int (lo8 (cv A (o + i))), .int (Int32.ofNat (q + i)), .ref d])) := c5.trans (by
        refine XS.iload Xl.here hexec rfl (hb hbytes d15) rfl ?_
        refine sipushV Xl.here hexec rfl 255 (hb hbytes d17) (by decide) ?_
        refine XS.icmpYes Xl.here hexec rfl (pc0 := 20) rfl (hb hbytes d20) rfl (ii_le_t (hp i (by omega))) (by decide) rfl ?_
        refine XS.aloadN Xl.here hexec rfl (hb hbytes d26) rfl rfl ?_
        refine XS.iloadN Xl.here hexec rfl (hb hbytes d27) rfl ?_
        refine XS.iload Xl.here hexec rfl (hb hbytes d28) rfl ?_
        refine i2b Xl.here hexec rfl (hb hbytes d30) rfl ?_
        exact Steps.refl _)
      obtain ⟨T7, X7, p7, st7⟩ := Xl.aput hexec hBk rfl hlt rfl (fits_lo8 (cv A (o + i))) (g := (mkF m 31 #[.val (.ref b), .val (.int (Int32.ofNat (o + i))), .val (.ref d), .val (.int (Int32.ofNat (q + i))), .val (.int (Int32.ofNat len)), .val (.int (Int32.ofNat i)), .val (.int (cv A (o + i)))] [.int (lo8 (cv A (o + i))), .int (Int32.ofNat (q + i)), .ref d])) rfl (rest := []) rfl (hb hbytes d31)
      have c8 : Steps p.tables e below (s₁.setTop (entryFrame m #[.ref b, .int (Int32.ofNat o), .ref d, .int (Int32.ofNat q), .int (Int32.ofNat len)] 7)) (T7.setTop (mkF m 32 #[.val (.ref b), .val (.int (Int32.ofNat (o + i))), .val (.ref d), .val (.int (Int32.ofNat (q + i))), .val (.int (Int32.ofNat len)), .val (.int (Int32.ofNat i)), .val (.int (cv A (o + i)))] [])) := c6.trans (st7 _ (Steps.refl _))
      have c9 : Steps p.tables e below (s₁.setTop (entryFrame m #[.ref b, .int (Int32.ofNat o), .ref d, .int (Int32.ofNat q), .int (Int32.ofNat len)] 7)) (T7.setTop (mkF m 3 #[.val (.ref b), .val (.int (Int32.ofNat (o + i) + 1)), .val (.ref d), .val (.int (Int32.ofNat (q + i) + 1)), .val (.int (Int32.ofNat len)), .val (.int (Int32.ofNat i + 1)), .val (.int (cv A (o + i)))] [])) := c8.trans (by
        refine iincV X7.here hexec rfl 1 (hb hbytes d32) (by decide) rfl rfl ?_
        refine iincV X7.here hexec rfl 1 (hb hbytes d35) (by decide) rfl rfl ?_
        refine iincV X7.here hexec rfl 1 (hb hbytes d38) (by decide) rfl rfl ?_
        refine XS.goto X7.here hexec rfl (pc0 := 41) rfl (hb hbytes d41) (by decide) rfl ?_
        exact Steps.refl _)
      have c10 : Steps p.tables e below (s₁.setTop (entryFrame m #[.ref b, .int (Int32.ofNat o), .ref d, .int (Int32.ofNat q), .int (Int32.ofNat len)] 7)) (T7.setTop (mkF m 3 #[.val (.ref b), .val (.int (Int32.ofNat (o + (i + 1)))), .val (.ref d), .val (.int (Int32.ofNat (q + (i + 1)))), .val (.int (Int32.ofNat len)), .val (.int (Int32.ofNat (i + 1))), .val (.int (cv A (o + i)))] [])) := by
        have := c9
        rw [succ32, succ32, succ32] at this
        exact this
      exact ih (i + 1) (by omega) _ (Or.inr ⟨_, rfl, rfl⟩) T7 _ (by rw [copyLocs_step, ← List.append_assoc]; exact X7) (pl.trans p7) (fl.step (by omega) hlt (by simp)) c10
  obtain ⟨T9, B9, z9, X9, p9, f9, g9⟩ := loop len 0 (by omega) .unset (Or.inl rfl) s₁ B (by simpa [copyLocs] using X0) ⟨hB0.1, fun _ _ => rfl, rfl⟩ (Laid.zero _ _ _) c2
  have c11 : Steps p.tables e below (s₁.setTop (entryFrame m #[.ref b, .int (Int32.ofNat o), .ref d, .int (Int32.ofNat q), .int (Int32.ofNat len)] 7)) (T9.setTop (mkF m 46 #[.val (.ref b), .val (.int (Int32.ofNat (o + len))), .val (.ref d), .val (.int (Int32.ofNat (q + len))), .val (.int (Int32.ofNat len)), .val (.int (Int32.ofNat len)), z9] [.int (Int32.ofNat len)])) := g9.trans (by
    refine XS.iload X9.here hexec rfl (hb hbytes d3) rfl ?_
    refine XS.iload X9.here hexec rfl (hb hbytes d5) rfl ?_
    refine XS.icmpYes X9.here hexec rfl (pc0 := 7) rfl (hb hbytes d7) rfl (ii_ge_t (nlt32 (by omega) (Nat.le_refl _))) (by decide) rfl ?_
    refine XS.iload X9.here hexec rfl (hb hbytes d44) rfl ?_
    exact Steps.refl _)
  exact ⟨T9, some (.int (Int32.ofNat len)), _, _, _, X9, by simp, rfl, rfl, (fun h => by cases h), ⟨rfl, B9, p9.from hh0, f9⟩, fun fs hl => c11.trans (X9.ireturnOut hexec hret rfl (Or.inl rfl) (hb hbytes d46) hl)⟩
end Cmp5
namespace Cmp3
def yN : MethodName := ⟨"java/lang/StringUTF16", "compress", "([CII)[B"⟩
abbrev yB : ByteArray := jdk_52_method_16_code
theorem d0 : decode yB 0 = .ok (.iload_n 2, 1) := by decide +kernel
theorem d1 : decode yB 1 = .ok (.newarray .byte, 2) := by decide +kernel
theorem d3 : decode yB 3 = .ok (.astore_n 3, 1) := by decide +kernel
theorem d4 : decode yB 4 = .ok (.aload_n 0, 1) := by decide +kernel
theorem d5 : decode yB 5 = .ok (.iload_n 1, 1) := by decide +kernel
theorem d6 : decode yB 6 = .ok (.aload_n 3, 1) := by decide +kernel
theorem d7 : decode yB 7 = .ok (.iconst 0, 1) := by decide +kernel
theorem d8 : decode yB 8 = .ok (.iload_n 2, 1) := by decide +kernel
theorem d9 : decode yB 9 = .ok (.invokestatic 115, 3) := by decide +kernel
theorem d12 : decode yB 12 = .ok (.istore 4, 2) := by decide +kernel
theorem d14 : decode yB 14 = .ok (.iload 4, 2) := by decide +kernel
theorem d16 : decode yB 16 = .ok (.iload_n 2, 1) := by decide +kernel
theorem d17 : decode yB 17 = .ok (.if_icmp (.eq) 40, 3) := by decide +kernel
theorem d57 : decode yB 57 = .ok (.aload_n 3, 1) := by decide +kernel
theorem d58 : decode yB 58 = .ok (.areturn, 1) := by decide +kernel
def site : List Cond := [.arrayClass .byte, Cmp5.tab] ++ staticW U16 115 Cmp5.yN
def tab : Cond := tabOf yN yB 6 (some (.array .byte)) site
def P (b : Addr) (A : Cell) (o len : Nat) (args : Array Value) (s : State) : Prop := args = #[.ref b, .int (Int32.ofNat o), .int (Int32.ofNat len)] ∧ Ch b A s ∧ o + len ≤ A.slots.size ∧ len ≤ 536870912 ∧ ∀ i, i < len → ¬ 255 < cv A (o + i)
def E (b : Addr) (A : Cell) (o len : Nat) (r : Option Value) (s u : State) : Prop := NewArr .byte "[B" len (fun j => .int (lo8 (cv A (o + j)))) r s u ∧ u.heap.size = s.heap.size + 1
/-- no char of the range above 255: a new byte[] of their low bytes -/
theorem law (l : Launch) (b : Addr) (A : Cell) (o len : Nat) : Law l yN 3 3 1 18 yB 6 (some (.array .byte)) site (P b A o len) (E b A o len) [] 1 len := by
  refine Law.of_walk (plainFor_of_name (by decide +kernel)) (by decide +kernel) (by decide +kernel) (by decide) (fun _ _ h => by rw [h.1]; rfl) (fun _ U U' hal hh h => ⟨h.1, h.2.1.mv hal hh, h.2.2⟩) (fun r U U' V V' h1 hal h2 h => ⟨NewArr.mv r U U' V V' h1 hal h2 h.1, by rw [h1, h2]; exact h.2⟩) ?_
  intro p e s m args below meth c s₁ X0 hexec hbytes hml hret hlk hnm hown hh0 W hP
  obtain ⟨rfl, hA, l1, l2, hp⟩ := hP
  have a31 := hA.1.2.2.2
  have c1 : Steps p.tables e below (s₁.setTop (entryFrame m #[.ref b, .int (Int32.ofNat o), .int (Int32.ofNat len)] 6)) (s₁.setTop (mkF m 0 #[.val (.ref b), .val (.int (Int32.ofNat o)), .val (.int (Int32.ofNat len)), .unset, .unset, .unset] [])) := entry rfl
  have c2 : Steps p.tables e below (s₁.setTop (entryFrame m #[.ref b, .int (Int32.ofNat o), .int (Int32.ofNat len)] 6)) (s₁.setTop (mkF m 1 #[.val (.ref b), .val (.int (Int32.ofNat o)), .val (.int (Int32.ofNat len)), .unset, .unset, .unset] [.int (Int32.ofNat len)])) := c1.trans (by
    refine XS.iloadN X0.here hexec rfl (hb hbytes d0) rfl ?_
    exact Steps.refl _)
  obtain ⟨T3, B3, X3, ba3, bs3, bv3, bh3, bf3, st3⟩ := X0.anew hexec (atype := .byte) (wk W (.arrayClass .byte)) rfl (by show len * 1 ≤ _; omega) (by omega) (g := (mkF m 1 #[.val (.ref b), .val (.int (Int32.ofNat o)), .val (.int (Int32.ofNat len)), .unset, .unset, .unset] [.int (Int32.ofNat len)])) rfl (hb hbytes d1) (rest := []) rfl (Nat.le_refl _) (by show 0 + len ≤ len; omega)
  rw [hh0] at ba3 st3
  have kp3 : XT.Kept s T3 := (XT.Kept.of_eq hh0).push bh3
  have hA3 := hA.keep X3.warmed.alike (kp3 _ _ hA.1.1)
  have hne : b ≠ s.heap.size := hA.1.ne
  have c4 : Steps p.tables e below (s₁.setTop (entryFrame m #[.ref b, .int (Int32.ofNat o), .int (Int32.ofNat len)] 6)) (T3.setTop (mkF m 3 #[.val (.ref b), .val (.int (Int32.ofNat o)), .val (.int (Int32.ofNat len)), .unset, .unset, .unset] [.ref s.heap.size])) := c2.trans (st3 _ (Steps.refl _))
  have c5 : Steps p.tables e below (s₁.setTop (entryFrame m #[.ref b, .int (Int32.ofNat o), .int (Int32.ofNat len)] 6)) (T3.setTop (mkF m 9 #[.val (.ref b), .val (.int (Int32.ofNat o)), .val (.int (Int32.ofNat len)), .val (.ref s.heap.size), .unset, .unset] [.int (Int32.ofNat len), .int 0, .ref s.heap.size, .int (Int32.ofNat o), .ref b])) := c4.trans (by
    refine XS.astoreN X3.here hexec rfl (hb hbytes d3) rfl rfl rfl ?_
    refine XS.aloadN X3.here hexec rfl (hb hbytes d4) rfl rfl ?_
    refine XS.iloadN X3.here hexec rfl (hb hbytes d5) rfl ?_
    refine XS.aloadN X3.here hexec rfl (hb hbytes d6) rfl rfl ?_
    refine iconstV X3.here hexec rfl 0 (hb hbytes d7) (by decide) ?_
    refine XS.iloadN X3.here hexec rfl (hb hbytes d8) rfl ?_
    exact Steps.refl _)
  obtain ⟨v6, T6, X6, E6, g6⟩ := X3.callS hexec (Cmp5.law l b A s.heap.size B3 o 0 len) hown (wks W (staticW U16 115 Cmp5.yN)) (wk W Cmp5.tab) (W := 0) (Nat.le_of_ble_eq_true rfl) (Nat.le_of_ble_eq_true rfl) (Nat.le_refl _) (by show 0 + len + 0 ≤ len; omega) (g := (mkF m 9 #[.val (.ref b), .val (.int (Int32.ofNat o)), .val (.int (Int32.ofNat len)), .val (.ref s.heap.size), .unset, .unset] [.int (Int32.ofNat len), .int (Int32.ofNat 0), .ref s.heap.size, .int (Int32.ofNat o), .ref b])) rfl (by rw [hml]; rfl) c5 (argsL := [.ref b, .int (Int32.ofNat o), .ref s.heap.size, .int (Int32.ofNat 0), .int (Int32.ofNat len)]) (rest := []) rfl rfl (by show 2 * 0 + 0 ≤ _; decide) (hb hbytes d9) (⟨rfl, hA3, ba3, hne, l1, by rw [bs3]; simp, hp⟩)
  obtain ⟨rfl, B6, p6, f6⟩ := E6
  have c7 : Steps p.tables e below (s₁.setTop (entryFrame m #[.ref b, .int (Int32.ofNat o), .int (Int32.ofNat len)] 6)) (T6.setTop (mkF m 12 #[.val (.ref b), .val (.int (Int32.ofNat o)), .val (.int (Int32.ofNat len)), .val (.ref s.heap.size), .unset, .unset] [.int (Int32.ofNat len)])) := g6
  have c8 : Steps p.tables e below (s₁.setTop (entryFrame m #[.ref b, .int (Int32.ofNat o), .int (Int32.ofNat len)] 6)) (T6.setTop (mkF m 58 #[.val (.ref b), .val (.int (Int32.ofNat o)), .val (.int (Int32.ofNat len)), .val (.ref s.heap.size), .val (.int (Int32.ofNat len)), .unset] [.ref s.heap.size])) := c7.trans (by
    refine XS.istore X6.here hexec rfl (hb hbytes d12) rfl rfl ?_
    refine XS.iload X6.here hexec rfl (hb hbytes d14) rfl ?_
    refine XS.iloadN X6.here hexec rfl (hb hbytes d16) rfl ?_
    refine XS.icmpYes X6.here hexec rfl (pc0 := 17) rfl (hb hbytes d17) rfl (ii_eq_t rfl) (by decide) rfl ?_
    refine XS.aloadN X6.here hexec rfl (hb hbytes d57) rfl rfl ?_
    exact Steps.refl _)
  have X8 := X6.wide (L' := []) (cells' := 1) (slots' := len) (fun x hx hlt => by
    simp only [List.nil_append, copyLocs, List.mem_map, List.mem_range] at hx
    obtain ⟨i, -, rfl⟩ := hx
    exact absurd hlt (Nat.lt_irrefl _)) (Nat.le_refl _) (by omega)
  exact ⟨T6, some (.ref s.heap.size), _, _, _, X8, rfl, rfl, rfl, (fun h => by cases h), ⟨⟨rfl, B6, ba3.like (X3.warmed.alike.symm.trans X6.warmed.alike) p6.1 f6.1 f6.2.1 f6.2.2.1, f6.2.1.trans bv3, by rw [X6.warmed.alike.findClass, f6.1]; exact bf3, by rw [f6.2.2.1, bs3]; simp, fun j hj => by rw [f6.2.2.2 j, if_pos (by omega)]; rfl, kp3.put p6 (Nat.le_refl _)⟩, by rw [p6.2.2, bh3, hh0]; simp⟩, fun fs hl => c8.trans (X8.areturnOut hexec rfl hret rfl (hb hbytes d58) hl)⟩
end Cmp3
namespace CodL
def yN : MethodName := ⟨"java/lang/StringUTF16", "coderFromArrayLen", "([BI)B"⟩
abbrev yB : ByteArray := jdk_52_method_15_code
theorem d0 : decode yB 0 = .ok (.iload_n 1, 1) := by decide +kernel
theorem d1 : decode yB 1 = .ok (.aload_n 0, 1) := by decide +kernel
theorem d2 : decode yB 2 = .ok (.arraylength, 1) := by decide +kernel
theorem d3 : decode yB 3 = .ok (.isub, 1) := by decide +kernel
theorem d4 : decode yB 4 = .ok (.bipush 31, 2) := by decide +kernel
theorem d6 : decode yB 6 = .ok (.iushr, 1) := by decide +kernel
theorem d7 : decode yB 7 = .ok (.i2b, 1) := by decide +kernel
theorem d8 : decode yB 8 = .ok (.ireturn, 1) := by decide +kernel
def site : List Cond := []
def tab : Cond := tabOf yN yB 2 (some .byte) site
def P (d : Addr) (B : Cell) (args : Array Value) (s : State) : Prop := args = #[.ref d, .int (Int32.ofNat B.slots.size)] ∧ Arr .byte d B s
def E (r : Option Value) (s u : State) : Prop := XT.PureE (some (.int 0)) r s u
/-- an array as long as the number of chars: LATIN1 -/
theorem law (l : Launch) (d : Addr) (B : Cell) : Law l yN 2 2 0 0 yB 2 (some .byte) site (P d B) E [] 0 0 := by
  refine Law.of_walk (plainFor_of_name (by decide +kernel)) (by decide +kernel) (by decide +kernel) (by decide) (fun _ _ h => by rw [h.1]; rfl) (fun _ U U' hal hh h => ⟨h.1, h.2.mv hal hh⟩) (fun r U U' V V' h1 hal h2 h => XT.PureE.mv r U U' V V' h1 hal h2 h) ?_
  intro p e s m args below meth c s₁ X0 hexec hbytes hml hret hlk hnm hown hh0 W hP
  obtain ⟨rfl, hB⟩ := hP
  have hB0 := hB.mv X0.warmed.alike hh0
  have c1 : Steps p.tables e below (s₁.setTop (entryFrame m #[.ref d, .int (Int32.ofNat B.slots.size)] 2)) (s₁.setTop (mkF m 0 #[.val (.ref d), .val (.int (Int32.ofNat B.slots.size))] [])) := entry rfl
  have c2 : Steps p.tables e below (s₁.setTop (entryFrame m #[.ref d, .int (Int32.ofNat B.slots.size)] 2)) (s₁.setTop (mkF m 2 #[.val (.ref d), .val (.int (Int32.ofNat B.slots.size))] [.ref d, .int (Int32.ofNat B.slots.size)])) := c1.trans (by
    refine XS.iloadN X0.here hexec rfl (hb hbytes d0) rfl ?_
    refine XS.aloadN X0.here hexec rfl (hb hbytes d1) rfl rfl ?_
    exact Steps.refl _)
  have c3 : Steps p.tables e below (s₁.setTop (entryFrame m #[.ref d, .int (Int32.ofNat B.slots.size)] 2)) (s₁.setTop (mkF m 8 #[.val (.ref d), .val (.int (Int32.ofNat B.slots.size))] [.int (lo8 (ushr (Int32.ofNat B.slots.size - Int32.ofNat B.slots.size) 31))])) := c2.trans (by
    refine X0.alen hexec hB0 rfl rfl (hb hbytes d2) ?_
    refine XS.isub X0.here hexec rfl (hb hbytes d3) rfl ?_
    refine bipushV X0.here hexec rfl 31 (hb hbytes d4) (by decide) ?_
    refine iushr X0.here hexec rfl (hb hbytes d6) rfl ?_
    refine i2b X0.here hexec rfl (hb hbytes d7) rfl ?_
    exact Steps.refl _)
  have e0 : lo8 (ushr (Int32.ofNat B.slots.size - Int32.ofNat B.slots.size) 31) = 0 := by rw [Int32.sub_self]; decide
  rw [e0] at c3
  exact ⟨s₁, some (.int 0), _, _, _, X0, rfl, rfl, rfl, (fun h => by cases h), ⟨rfl, hh0⟩, fun fs hl => c3.trans (X0.ireturnOut hexec hret rfl (Or.inr (Or.inr (Or.inl rfl))) (hb hbytes d8) hl)⟩
end CodL
/-- the String at a is Latin-1 over a new byte[] (the heap's one new cell): the low bytes of the len chars of A from o on; every cell but a is kept -/
def Got (a : Addr) (D : Cell) (fV fC : Field) (A : Cell) (o len : Nat) (r : Option Value) (s u : State) : Prop := r = none ∧ ∃ D' V : Cell, Blank "java/lang/String" a D' u ∧ Same D D' [fV.slot, fC.slot] ∧ D'.slots[fV.slot]? = some (.ref s.heap.size) ∧ D'.slots[fC.slot]? = some (.int 0) ∧ Arr .byte s.heap.size V u ∧ V.vm = .none ∧ u.vm.findClass "[B" = some V.cls ∧ V.slots.size = len ∧ (∀ j, j < len → V.slots[j]? = some (.int (lo8 (cv A (o + j))))) ∧ (∀ (y : Addr) (c : Cell), y ≠ a → s.heap[y]? = some c → u.heap[y]? = some c) ∧ u.heap.size = s.heap.size + 1
theorem Got.mv {a : Addr} {D A : Cell} {fV fC : Field} {o len : Nat} : ∀ r (U U' V V' : State), U'.heap = U.heap → V.vm.Alike V'.vm → V'.heap = V.heap → Got a D fV fC A o len r U V → Got a D fV fC A o len r U' V' :=
  fun r U U' V V' h1 hal h2 ⟨e0, D', X, a1, a2, a3, a4, a5, a6, a7, a8, a9, a10, a11⟩ => ⟨e0, D', X, a1.mv hal h2, a2, by rw [h1]; exact a3, a4, by rw [h1]; exact a5.mv hal h2, a6, by rw [hal.findClass]; exact a7, a8, a9, by rw [h1, h2]; exact a10, by rw [h1, h2]; exact a11⟩
namespace New4
def yN : MethodName := ⟨"java/lang/String", "<init>", "([CIILjava/lang/Void;)V"⟩
abbrev yB : ByteArray := jdk_42_method_149_code
theorem d0 : decode yB 0 = .ok (.aload_n 0, 1) := by decide +kernel
theorem d1 : decode yB 1 = .ok (.invokespecial 1, 3) := by decide +kernel
theorem d4 : decode yB 4 = .ok (.iload_n 3, 1) := by decide +kernel
theorem d5 : decode yB 5 = .ok (.ifCond (.ne) 22, 3) := by decide +kernel
theorem d27 : decode yB 27 = .ok (.getstatic 38, 3) := by decide +kernel
theorem d30 : decode yB 30 = .ok (.ifCond (.eq) 28, 3) := by decide +kernel
theorem d33 : decode yB 33 = .ok (.aload_n 1, 1) := by decide +kernel
theorem d34 : decode yB 34 = .ok (.iload_n 2, 1) := by decide +kernel
theorem d35 : decode yB 35 = .ok (.iload_n 3, 1) := by decide +kernel
theorem d36 : decode yB 36 = .ok (.invokestatic 177, 3) := by decide +kernel
theorem d39 : decode yB 39 = .ok (.astore 5, 2) := by decide +kernel
theorem d41 : decode yB 41 = .ok (.aload_n 0, 1) := by decide +kernel
theorem d42 : decode yB 42 = .ok (.aload 5, 2) := by decide +kernel
theorem d44 : decode yB 44 = .ok (.iload_n 3, 1) := by decide +kernel
theorem d45 : decode yB 45 = .ok (.invokestatic 47, 3) := by decide +kernel
theorem d48 : decode yB 48 = .ok (.putfield 15, 3) := by decide +kernel
theorem d51 : decode yB 51 = .ok (.aload_n 0, 1) := by decide +kernel
theorem d52 : decode yB 52 = .ok (.aload 5, 2) := by decide +kernel
theorem d54 : decode yB 54 = .ok (.putfield 9, 3) := by decide +kernel
theorem d57 : decode yB 57 = .ok (.return_, 1) := by decide +kernel
def site : List Cond := [.fieldLink "java/lang/String" 38 "java/lang/String" "COMPACT_STRINGS" "Z", Cmp3.tab, CodL.tab, .laysFinal "java/lang/String" "java/lang/String" "value" "[B", .fieldLink "java/lang/String" 9 "java/lang/String" "value" "[B", .laysFinal "java/lang/String" "java/lang/String" "coder" "B", .fieldLink "java/lang/String" 15 "java/lang/String" "coder" "B"] ++ objW "java/lang/String" 1 ++ staticW "java/lang/String" 177 Cmp3.yN ++ staticW "java/lang/String" 47 CodL.yN
def tab : Cond := tabOf yN yB 6 none site
def P (a : Addr) (D : Cell) (fV fC : Field) (b : Addr) (A : Cell) (z : Int32) (o len : Nat) (args : Array Value) (s : State) : Prop := args = #[.ref a, .ref b, .int (Int32.ofNat o), .int (Int32.ofNat len), .null] ∧ Blank "java/lang/String" a D s ∧ Found "java/lang/String" "value" "[B" fV s ∧ Found "java/lang/String" "coder" "B" fC s ∧ Ch b A s ∧ StaticIs s "java/lang/String" "COMPACT_STRINGS" "Z" (.int z) ∧ ¬ z = 0 ∧ 0 < len ∧ o + len ≤ A.slots.size ∧ len ≤ 536870912 ∧ ∀ i, i < len → ¬ 255 < cv A (o + i)
def E (a : Addr) (D : Cell) (fV fC : Field) (A : Cell) (o len : Nat) (r : Option Value) (s u : State) : Prop := Got a D fV fC A o len r s u
/-- len > 0, no char of the range above 255: a Latin-1 String of their low bytes -/
theorem law (l : Launch) (a : Addr) (D : Cell) (fV fC : Field) (b : Addr) (A : Cell) (z : Int32) (o len : Nat) : Law l yN 5 4 2 35 yB 6 none site (P a D fV fC b A z o len) (E a D fV fC A o len) [⟨a, fC.slot⟩, ⟨a, fV.slot⟩] 1 len := by
  refine Law.of_walk (plainFor_of_name (by decide +kernel)) (by decide +kernel) (by decide +kernel) (by decide) (fun _ _ h => by rw [h.1]; rfl) (fun _ U U' hal hh h => ⟨h.1, h.2.1.mv hal hh, h.2.2.1.al hal, h.2.2.2.1.al hal, h.2.2.2.2.1.mv hal hh, h.2.2.2.2.2.1.there hal hh, h.2.2.2.2.2.2⟩) (fun r U U' V V' h1 hal h2 h => Got.mv r U U' V V' h1 hal h2 h) ?_
  intro p e s m args below meth c s₁ X0 hexec hbytes hml hret hlk hnm hown hh0 W hP
  obtain ⟨rfl, hB, f1, f2, hA, s1, hz, l0, l1, l2, hp⟩ := hP
  have a31 := hA.1.2.2.2
  have c1 : Steps p.tables e below (s₁.setTop (entryFrame m #[.ref a, .ref b, .int (Int32.ofNat o), .int (Int32.ofNat len), .null] 6)) (s₁.setTop (mkF m 0 #[.val (.ref a), .val (.ref b), .val (.int (Int32.ofNat o)), .val (.int (Int32.ofNat len)), .val .null, .unset] [])) := entry rfl
  have c2 : Steps p.tables e below (s₁.setTop (entryFrame m #[.ref a, .ref b, .int (Int32.ofNat o), .int (Int32.ofNat len), .null] 6)) (s₁.setTop (mkF m 1 #[.val (.ref a), .val (.ref b), .val (.int (Int32.ofNat o)), .val (.int (Int32.ofNat len)), .val .null, .unset] [.ref a])) := c1.trans (by
    refine XS.aloadN X0.here hexec rfl (hb hbytes d0) rfl rfl ?_
    exact Steps.refl _)
  obtain ⟨T3, X3, q3, st3⟩ := X0.oinit hexec hown (wks W (objW "java/lang/String" 1)) (g := (mkF m 1 #[.val (.ref a), .val (.ref b), .val (.int (Int32.ofNat o)), .val (.int (Int32.ofNat len)), .val .null, .unset] [.ref a])) rfl (by rw [hml]; rfl) (rest := []) rfl (hb hbytes d1) (W := 0) (by show 2 * 0 + 0 ≤ _; decide) (Nat.le_of_ble_eq_true rfl) (Nat.le_of_ble_eq_true rfl)
  have hh3 := q3.trans hh0
  have c4 : Steps p.tables e below (s₁.setTop (entryFrame m #[.ref a, .ref b, .int (Int32.ofNat o), .int (Int32.ofNat len), .null] 6)) (T3.setTop (mkF m 27 #[.val (.ref a), .val (.ref b), .val (.int (Int32.ofNat o)), .val (.int (Int32.ofNat len)), .val .null, .unset] [])) := (c2.trans (st3 _ (Steps.refl _))).trans (by
    refine XS.iloadN X3.here hexec rfl (hb hbytes d4) rfl ?_
    refine XS.ifYes X3.here hexec rfl (pc0 := 5) rfl (hb hbytes d5) rfl (i0_ne_t (nz32 (by omega) l0)) (by decide) rfl ?_
    exact Steps.refl _)
  obtain ⟨T5, X5, q5, st5⟩ := X3.sget hexec hown (wk W (.fieldLink "java/lang/String" 38 "java/lang/String" "COMPACT_STRINGS" "Z")) s1 (fun _ _ h => by rw [hh3]; exact h) (g := (mkF m 27 #[.val (.ref a), .val (.ref b), .val (.int (Int32.ofNat o)), .val (.int (Int32.ofNat len)), .val .null, .unset] [])) rfl (hb hbytes d27)
  have hh5 := q5.trans hh3
  have c6 : Steps p.tables e below (s₁.setTop (entryFrame m #[.ref a, .ref b, .int (Int32.ofNat o), .int (Int32.ofNat len), .null] 6)) (T5.setTop (mkF m 30 #[.val (.ref a), .val (.ref b), .val (.int (Int32.ofNat o)), .val (.int (Int32.ofNat len)), .val .null, .unset] [.int z])) := c4.trans (st5 _ (Steps.refl _))
  have c7 : Steps p.tables e below (s₁.setTop (entryFrame m #[.ref a, .ref b, .int (Int32.ofNat o), .int (Int32.ofNat len), .null] 6)) (T5.setTop (mkF m 36 #[.val (.ref a), .val (.ref b), .val (.int (Int32.ofNat o)), .val (.int (Int32.ofNat len)), .val .null, .unset] [.int (Int32.ofNat len), .int (Int32.ofNat o), .ref b])) := c6.trans (by
    refine XS.ifNo X5.here hexec rfl (hb hbytes d30) rfl (i0_eq_f hz) ?_
    refine XS.aloadN X5.here hexec rfl (hb hbytes d33) rfl rfl ?_
    refine XS.iloadN X5.here hexec rfl (hb hbytes d34) rfl ?_
    refine XS.iloadN X5.here hexec rfl (hb hbytes d35) rfl ?_
    exact Steps.refl _)
  obtain ⟨v8, T8, X8, E8, g8⟩ := X5.callS hexec (Cmp3.law l b A o len) hown (wks W (staticW "java/lang/String" 177 Cmp3.yN)) (wk W Cmp3.tab) (W := 0) (Nat.le_of_ble_eq_true rfl) (Nat.le_of_ble_eq_true rfl) (Nat.le_refl _) (by show 0 + len ≤ len; omega) (g := (mkF m 36 #[.val (.ref a), .val (.ref b), .val (.int (Int32.ofNat o)), .val (.int (Int32.ofNat len)), .val .null, .unset] [.int (Int32.ofNat len), .int (Int32.ofNat o), .ref b])) rfl (by rw [hml]; rfl) c7 (argsL := [.ref b, .int (Int32.ofNat o), .int (Int32.ofNat len)]) (rest := []) rfl rfl (by show 2 * 0 + 0 ≤ _; decide) (hb hbytes d36) (⟨rfl, hA.mv X5.warmed.alike hh5, l1, l2, hp⟩)
  obtain ⟨e8, z8⟩ := E8
  obtain ⟨rfl, N, n1, n2, n3, n4, n5, n6⟩ := NewArr.mv _ T5 s _ _ hh5.symm (Vm.Alike.refl _) rfl e8
  rw [hh5] at z8
  have hB1 := hB.keep X8.warmed.alike (n6 _ _ hB.1)
  have hne : s.heap.size ≠ a := (Nat.ne_of_lt (Array.getElem?_eq_some_iff.mp hB.1).1).symm
  have c9 : Steps p.tables e below (s₁.setTop (entryFrame m #[.ref a, .ref b, .int (Int32.ofNat o), .int (Int32.ofNat len), .null] 6)) (T8.setTop (mkF m 39 #[.val (.ref a), .val (.ref b), .val (.int (Int32.ofNat o)), .val (.int (Int32.ofNat len)), .val .null, .unset] [.ref s.heap.size])) := g8
  have c10 : Steps p.tables e below (s₁.setTop (entryFrame m #[.ref a, .ref b, .int (Int32.ofNat o), .int (Int32.ofNat len), .null] 6)) (T8.setTop (mkF m 45 #[.val (.ref a), .val (.ref b), .val (.int (Int32.ofNat o)), .val (.int (Int32.ofNat len)), .val .null, .val (.ref s.heap.size)] [.int (Int32.ofNat N.slots.size), .ref s.heap.size, .ref a])) := by
    have hc : Steps p.tables e below (s₁.setTop (entryFrame m #[.ref a, .ref b, .int (Int32.ofNat o), .int (Int32.ofNat len), .null] 6)) (T8.setTop (mkF m 45 #[.val (.ref a), .val (.ref b), .val (.int (Int32.ofNat o)), .val (.int (Int32.ofNat len)), .val .null, .val (.ref s.heap.size)] [.int (Int32.ofNat len), .ref s.heap.size, .ref a])) := c9.trans (by
      refine XS.astore X8.here hexec rfl (hb hbytes d39) rfl rfl rfl ?_
      refine XS.aloadN X8.here hexec rfl (hb hbytes d41) rfl rfl ?_
      refine XS.aload X8.here hexec rfl (hb hbytes d42) rfl rfl ?_
      refine XS.iloadN X8.here hexec rfl (hb hbytes d44) rfl ?_
      exact Steps.refl _)
    rw [n4]; exact hc
  obtain ⟨v11, T11, X11, E11, g11⟩ := X8.callS hexec (CodL.law l s.heap.size N) hown (wks W (staticW "java/lang/String" 47 CodL.yN)) (wk W CodL.tab) (W := 1) (Nat.le_of_ble_eq_true rfl) (Nat.le_of_ble_eq_true rfl) (Nat.le_refl _) (by show 0 + len + 0 ≤ len; omega) (g := (mkF m 45 #[.val (.ref a), .val (.ref b), .val (.int (Int32.ofNat o)), .val (.int (Int32.ofNat len)), .val .null, .val (.ref s.heap.size)] [.int (Int32.ofNat N.slots.size), .ref s.heap.size, .ref a])) rfl (by rw [hml]; rfl) c10 (argsL := [.ref s.heap.size, .int (Int32.ofNat N.slots.size)]) (rest := [.ref a]) rfl rfl (by show 2 * 0 + (1 + 0) ≤ _; decide) (hb hbytes d45) (⟨rfl, n1⟩)
  obtain ⟨rfl, q11⟩ := E11
  have hB11 := hB1.mv (X8.warmed.alike.symm.trans X11.warmed.alike) q11
  have c12 : Steps p.tables e below (s₁.setTop (entryFrame m #[.ref a, .ref b, .int (Int32.ofNat o), .int (Int32.ofNat len), .null] 6)) (T11.setTop (mkF m 48 #[.val (.ref a), .val (.ref b), .val (.int (Int32.ofNat o)), .val (.int (Int32.ofNat len)), .val .null, .val (.ref s.heap.size)] [.int 0, .ref a])) := g11
  obtain ⟨T13, X13, p13, bl13, sl13, st13⟩ := X11.finit hexec hown (wk W (.fieldLink "java/lang/String" 15 "java/lang/String" "coder" "B")) (Or.inr ⟨_, (wk W (.laysFinal "java/lang/String" "java/lang/String" "coder" "B"))⟩) (Or.inl ⟨rfl, hnm⟩) f2 (Or.inl rfl) hB11 (t := .byte) (by decide +kernel) rfl (g := (mkF m 48 #[.val (.ref a), .val (.ref b), .val (.int (Int32.ofNat o)), .val (.int (Int32.ofNat len)), .val .null, .val (.ref s.heap.size)] [.int 0, .ref a])) rfl (rest := []) rfl (hb hbytes d48)
  have c14 : Steps p.tables e below (s₁.setTop (entryFrame m #[.ref a, .ref b, .int (Int32.ofNat o), .int (Int32.ofNat len), .null] 6)) (T13.setTop (mkF m 54 #[.val (.ref a), .val (.ref b), .val (.int (Int32.ofNat o)), .val (.int (Int32.ofNat len)), .val .null, .val (.ref s.heap.size)] [.ref s.heap.size, .ref a])) := (c12.trans (st13 _ (Steps.refl _))).trans (by
    refine XS.aloadN X13.here hexec rfl (hb hbytes d51) rfl rfl ?_
    refine XS.aload X13.here hexec rfl (hb hbytes d52) rfl rfl ?_
    exact Steps.refl _)
  obtain ⟨T15, X15, p15, bl15, sl15, st15⟩ := X13.finit hexec hown (wk W (.fieldLink "java/lang/String" 9 "java/lang/String" "value" "[B")) (Or.inr ⟨_, (wk W (.laysFinal "java/lang/String" "java/lang/String" "value" "[B"))⟩) (Or.inl ⟨rfl, hnm⟩) f1 (Or.inl rfl) bl13 (t := (.array .byte)) (by decide +kernel) rfl (g := (mkF m 54 #[.val (.ref a), .val (.ref b), .val (.int (Int32.ofNat o)), .val (.int (Int32.ofNat len)), .val .null, .val (.ref s.heap.size)] [.ref s.heap.size, .ref a])) rfl (rest := []) rfl (hb hbytes d54)
  have c16 : Steps p.tables e below (s₁.setTop (entryFrame m #[.ref a, .ref b, .int (Int32.ofNat o), .int (Int32.ofNat len), .null] 6)) (T15.setTop (mkF m 57 #[.val (.ref a), .val (.ref b), .val (.int (Int32.ofNat o)), .val (.int (Int32.ofNat len)), .val .null, .val (.ref s.heap.size)] [])) := c14.trans (st15 _ (Steps.refl _))
  have ap := apart (Or.inr ⟨_, (wk W (.laysFinal "java/lang/String" "java/lang/String" "value" "[B"))⟩) (Or.inr ⟨_, (wk W (.laysFinal "java/lang/String" "java/lang/String" "coder" "B"))⟩) f1 f2 (t₁ := .array .byte) (t₂ := .byte) (by decide +kernel) (by decide +kernel) (by decide)
  have al := X8.warmed.alike.symm.trans X15.warmed.alike
  have n7 : T11.heap[s.heap.size]? = some N := by rw [q11]; exact n1.1
  exact ⟨T15, none, _, _, _, X15, by simp, rfl, by omega, (fun _ => rfl), ⟨rfl, _, N, bl15, ((Same.refl D _).set _ (by simp)).set _ (by simp), sl15, (Cell.slots_setSlot_ne _ ap).trans sl13, n1.keep al (p15.other hne (p13.other hne n7)), n2, by rw [al.findClass]; exact n3, n4, n5, fun y c h1 h2 => p15.other h1 (p13.other h1 (by rw [q11]; exact n6 y c h2)), by rw [p15.2.2, p13.2.2, q11]; exact z8⟩, fun fs hl => c16.trans (X15.returnOut hexec hret (hb hbytes d57) hl)⟩
end New4
namespace New1
def yN : MethodName := ⟨"java/lang/String", "<init>", "([C)V"⟩
abbrev yB : ByteArray := jdk_42_method_3_code
theorem d0 : decode yB 0 = .ok (.aload_n 0, 1) := by decide +kernel
theorem d1 : decode yB 1 = .ok (.aload_n 1, 1) := by decide +kernel
theorem d2 : decode yB 2 = .ok (.iconst 0, 1) := by decide +kernel
theorem d3 : decode yB 3 = .ok (.aload_n 1, 1) := by decide +kernel
theorem d4 : decode yB 4 = .ok (.arraylength, 1) := by decide +kernel
theorem d5 : decode yB 5 = .ok (.aconst_null, 1) := by decide +kernel
theorem d6 : decode yB 6 = .ok (.invokespecial 27, 3) := by decide +kernel
theorem d9 : decode yB 9 = .ok (.return_, 1) := by decide +kernel
def site : List Cond := [New4.tab] ++ initW "java/lang/String" 27 New4.yN
def tab : Cond := tabOf yN yB 2 none site
def P (a : Addr) (D : Cell) (fV fC : Field) (b : Addr) (A : Cell) (z : Int32) (args : Array Value) (s : State) : Prop := args = #[.ref a, .ref b] ∧ Blank "java/lang/String" a D s ∧ Found "java/lang/String" "value" "[B" fV s ∧ Found "java/lang/String" "coder" "B" fC s ∧ Ch b A s ∧ StaticIs s "java/lang/String" "COMPACT_STRINGS" "Z" (.int z) ∧ ¬ z = 0 ∧ 0 < A.slots.size ∧ A.slots.size ≤ 536870912 ∧ ∀ i, i < A.slots.size → ¬ 255 < cv A i
def E (a : Addr) (D : Cell) (fV fC : Field) (A : Cell) (r : Option Value) (s u : State) : Prop := Got a D fV fC A 0 A.slots.size r s u
/-- new String(chars), not empty, no char above 255: a Latin-1 String of their low bytes -/
theorem law (l : Launch) (a : Addr) (D : Cell) (fV fC : Field) (b : Addr) (A : Cell) (z : Int32) : Law l yN 2 1 3 52 yB 2 none site (P a D fV fC b A z) (E a D fV fC A) [⟨a, fC.slot⟩, ⟨a, fV.slot⟩] 1 A.slots.size := by
  refine Law.of_walk (plainFor_of_name (by decide +kernel)) (by decide +kernel) (by decide +kernel) (by decide) (fun _ _ h => by rw [h.1]; rfl) (fun _ U U' hal hh h => ⟨h.1, h.2.1.mv hal hh, h.2.2.1.al hal, h.2.2.2.1.al hal, h.2.2.2.2.1.mv hal hh, h.2.2.2.2.2.1.there hal hh, h.2.2.2.2.2.2⟩) (fun r U U' V V' h1 hal h2 h => Got.mv r U U' V V' h1 hal h2 h) ?_
  intro p e s m args below meth c s₁ X0 hexec hbytes hml hret hlk hnm hown hh0 W hP
  obtain ⟨rfl, hB, f1, f2, hA, s1, hz, l0, l2, hp⟩ := hP
  have c1 : Steps p.tables e below (s₁.setTop (entryFrame m #[.ref a, .ref b] 2)) (s₁.setTop (mkF m 0 #[.val (.ref a), .val (.ref b)] [])) := entry rfl
  have c2 : Steps p.tables e below (s₁.setTop (entryFrame m #[.ref a, .ref b] 2)) (s₁.setTop (mkF m 6 #[.val (.ref a), .val (.ref b)] [.null, .int (Int32.ofNat A.slots.size), .int 0, .ref b, .ref a])) := c1.trans (by
    refine XS.aloadN X0.here hexec rfl (hb hbytes d0) rfl rfl ?_
    refine XS.aloadN X0.here hexec rfl (hb hbytes d1) rfl rfl ?_
    refine iconstV X0.here hexec rfl 0 (hb hbytes d2) (by decide) ?_
    refine XS.aloadN X0.here hexec rfl (hb hbytes d3) rfl rfl ?_
    refine X0.alen hexec (hA.1.mv X0.warmed.alike hh0) rfl rfl (hb hbytes d4) ?_
    refine XS.aconstNull X0.here hexec rfl (hb hbytes d5) ?_
    exact Steps.refl _)
  obtain ⟨v3, T3, X3, E3, g3⟩ := X0.callN hexec (New4.law l a D fV fC b A z 0 A.slots.size) rfl hown (wks W (initW "java/lang/String" 27 New4.yN)) (W New4.tab (by simp only [site, List.mem_cons, List.mem_append, true_or, or_true])) (W := 0) (Nat.le_of_ble_eq_true rfl) (Nat.le_of_ble_eq_true rfl) (Nat.le_refl _) (by show 0 + A.slots.size ≤ A.slots.size; omega) (g := (mkF m 6 #[.val (.ref a), .val (.ref b)] [.null, .int (Int32.ofNat A.slots.size), .int (Int32.ofNat 0), .ref b, .ref a])) rfl (by rw [hml]; rfl) c2 (argsL := [.ref b, .int (Int32.ofNat 0), .int (Int32.ofNat A.slots.size), .null]) (rest := []) rfl rfl (by show 2 * 0 + 0 ≤ _; decide) (hb hbytes d6) (⟨rfl, hB.mv X0.warmed.alike hh0, f1.al X0.warmed.alike, f2.al X0.warmed.alike, hA.mv X0.warmed.alike hh0, s1.there X0.warmed.alike hh0, hz, l0, by omega, l2, fun i hi => by rw [Nat.zero_add]; exact hp i hi⟩)
  have e0 := Got.mv _ s₁ s _ _ hh0.symm (Vm.Alike.refl _) rfl E3
  obtain rfl := e0.1
  have c4 : Steps p.tables e below (s₁.setTop (entryFrame m #[.ref a, .ref b] 2)) (T3.setTop (mkF m 9 #[.val (.ref a), .val (.ref b)] [])) := g3
  exact ⟨T3, none, _, _, _, X3, by simp, rfl, by omega, (fun _ => rfl), e0, fun fs hl => c4.trans (X3.returnOut hexec hret (hb hbytes d9) hl)⟩
theorem pays {l : Launch} {R : Room} {p : Program} {e : Env} {below : List Frame} {s : State} {sargs : Array Value} {len W : Nat} (a : Addr) (D : Cell) (fV fC : Field) (b : Addr) (A : Cell) (z : Int32) (htab : tab.before sargs s = true) (hfr : 4 ≤ R.frames) (hlo : W + 65 ≤ R.locals) :
    Back l R p e below s sargs yN len W (fun A₁ a₁ => A₁.cells + 1 ≤ R.cells ∧ A₁.slots + A.slots.size ≤ R.slots ∧ P a D fV fC b A z a₁ A₁.U) (fun A₁ _ v₁ B₁ => E a D fV fC A v₁ A₁.U B₁.U ∧ B₁.locs = A₁.locs ++ [⟨a, fC.slot⟩, ⟨a, fV.slot⟩] ∧ B₁.cells = A₁.cells + 1 ∧ B₁.slots = A₁.slots + A.slots.size) :=
  (law l a D fV fC b A z).pays htab hfr (by omega)
end New1
/-- the byte, read back as charAt reads it, is the char -/
theorem lo8_mask {x : Int32} (h0 : ¬ x < 0) (h1 : ¬ 255 < x) : lo8 x &&& 255 = x := by
  have t : ∀ k : Fin 256, lo8 (Int32.ofNat k.val) &&& 255 = Int32.ofNat k.val := by decide +kernel
  rw [Int32.lt_iff_toInt_lt] at h0 h1
  have e0 : (0 : Int32).toInt = 0 := rfl
  have e1 : (255 : Int32).toInt = 255 := rfl
  obtain ⟨k, hk⟩ : ∃ k : Nat, x.toInt = k := ⟨x.toInt.toNat, by omega⟩
  have hx : x = Int32.ofNat k := Int32.toInt_inj.mp (by rw [hk, Int32.toInt_ofNat_small (by omega)])
  rw [hx]
  exact t ⟨k, by omega⟩
end StrChars
namespace StrChars.Road
open Jvm Sem ClassFile Op Lib Jvm.Stand Jvm.Free Jvm.Free.XT
open Jvm.Lib.Cold (StaticIs)
abbrev ST : String := "java/lang/String"
/-- every table word that New1's law asks, flat -/
abbrev words : List Jvm.Cond := [.code New1.yN New1.yB 2 none, .initialized ST, .methodLink ST 27 New4.yN, .instanceMethod New4.yN,
  .code New4.yN New4.yB 6 none, .fieldLink ST 38 ST "COMPACT_STRINGS" "Z", .laysFinal ST ST "value" "[B", .fieldLink ST 9 ST "value" "[B", .laysFinal ST ST "coder" "B", .fieldLink ST 15 ST "coder" "B",
  .methodLink ST 1 Lib.objectInit, .instanceMethod Lib.objectInit, .code Lib.objectInit ⟨#[0xb1]⟩ 1 none, .methodLink ST 177 Cmp3.yN, .static Cmp3.yN, .methodLink ST 47 CodL.yN, .static CodL.yN,
  .code Cmp3.yN Cmp3.yB 6 (some (.array .byte)), .initialized U16, .arrayClass .byte, .methodLink U16 115 Cmp5.yN, .static Cmp5.yN, .code Cmp5.yN Cmp5.yB 7 (some .int), .code CodL.yN CodL.yB 2 (some .byte)]
theorem tab_of {a : Array Value} {s : State} (h : ∀ w ∈ words, w.before a s = true) : New1.tab.before a s = true := by
  have h5 : Cmp5.tab.before a s = true := unparts (wk h (.code Cmp5.yN Cmp5.yB 7 (some .int))) (wks h (.initialized Cmp5.yN.cls :: Cmp5.site))
  have hc : CodL.tab.before a s = true := unparts (wk h (.code CodL.yN CodL.yB 2 (some .byte))) (wks h (.initialized CodL.yN.cls :: CodL.site))
  have q5 : ∀ w ∈ Cmp5.tab :: words, w.before a s = true := fun w hw => (List.mem_cons.mp hw).elim (fun e => e ▸ h5) (h w)
  have h3 : Cmp3.tab.before a s = true := unparts (wk q5 (.code Cmp3.yN Cmp3.yB 6 (some (.array .byte)))) (wks q5 (.initialized Cmp3.yN.cls :: Cmp3.site))
  have q3 : ∀ w ∈ Cmp3.tab :: CodL.tab :: words, w.before a s = true := fun w hw => (List.mem_cons.mp hw).elim (fun e => e ▸ h3) fun hw => (List.mem_cons.mp hw).elim (fun e => e ▸ hc) (h w)
  have h4 : New4.tab.before a s = true := unparts (wk q3 (.code New4.yN New4.yB 6 none)) (wks q3 (.initialized New4.yN.cls :: New4.site))
  have q4 : ∀ w ∈ New4.tab :: words, w.before a s = true := fun w hw => (List.mem_cons.mp hw).elim (fun e => e ▸ h4) (h w)
  exact unparts (wk q4 (.code New1.yN New1.yB 2 none)) (wks q4 (.initialized New1.yN.cls :: New1.site))
/-- the words ride from the start Z to the walk's own state -/
theorem moved {Z s : State} {a0 args : Array Value} (hZ : Z.Warmed39 s.vm) (hw : ∀ d ∈ words, d.before a0 Z = true) : ∀ d ∈ words, d.before args s = true := fun d hd => by
  have q := hw d hd
  have t : ∀ d ∈ words, d = .arrayClass .byte ∨ (d.onTables && d.keepsFace) = true := by decide +kernel
  rcases t d hd with rfl | t
  · exact RoadKit.mvA hZ q
  · exact RoadKit.mv hZ q t
/-- WHAT COMES BACK, over the tables of the start Z: h the heap at the call, h' behind it -/
def Q (Z : State) (x : Addr) (A : Cell) (h : Heap) (v : Option Value) (h' : Heap) (L : List Loc) : Prop := v = none ∧ (∀ y ∈ L, y.base = x) ∧ RoadKit.Keep h h' [x] ∧ h'.size = h.size + 1 ∧ RoadKit.Exa Z h' x ST ∧ RoadKit.Fld Z h' x ST "value" "[B" (.ref h.size) ∧ RoadKit.Fld Z h' x ST "coder" "B" (.int 0) ∧
  (∃ V : Cell, RoadKit.Arr Z h' h.size V .byte ∧ V.vm = .none ∧ Z.vm.findClass "[B" = some V.cls ∧ V.slots.size = A.slots.size ∧ ∀ j, j < A.slots.size → V.slots[j]? = some (.int (lo8 (cv A j)))) ∧
  ∀ (O n d : String) (w : Value), RoadKit.Fld Z h x O n d w → RoadKit.slotOf Z O n d ≠ RoadKit.slotOf Z ST "value" "[B" → RoadKit.slotOf Z O n d ≠ RoadKit.slotOf Z ST "coder" "B" → RoadKit.Fld Z h' x O n d w
/-- **new String(chars) AT A CALL, IN THE ROAD'S FORM**: for specialBack behind newO: x the fresh String, b the char[] with the cell A -/
theorem back {p : Program} {l : Launch} {e : Env} {R : Room} {s : State} {args : Array Value} {below : List Frame} {len W : Nat} {Z : State} {a0 : Array Value} {h : Heap} (hZ : Z.Warmed39 s.vm) (hw : ∀ d ∈ words, d.before a0 Z = true) {kI : Nat} (wi : (Jvm.Cond.instantiable ST kI).before a0 Z = true)
    {x b : Addr} {A : Cell} {z : Int32} {v0 c0 : Value} (E : RoadKit.Exa Z h x ST) (V : RoadKit.Fld Z h x ST "value" "[B" v0) (C : RoadKit.Fld Z h x ST "coder" "B" c0) (K : RoadKit.Arr Z h b A .char) (hty : Typed .char A) (S : RoadKit.Sta Z h ST "COMPACT_STRINGS" "Z" (.int z)) (hz : ¬ z = 0)
    (l0 : 0 < A.slots.size) (l2 : A.slots.size ≤ 536870912) (hp : ∀ i, i < A.slots.size → ¬ 255 < cv A i) (hfr : 4 ≤ R.frames) (hlo : W + 65 ≤ R.locals) :
    Back l R p e below s args New1.yN len W (fun P a => a = #[.ref x, .ref b] ∧ P.U.heap = h ∧ P.cells + 1 ≤ R.cells ∧ P.slots + A.slots.size ≤ R.slots)
      (fun P _ v B => ∃ L, Q Z x A h v B.U.heap L ∧ B.locs = P.locs ++ L ∧ B.cells = P.cells + 1 ∧ B.slots = P.slots + A.slots.size) := by
  intro m meth c P g ig mk a X hg hsize hdg hW hn hp'
  obtain ⟨rfl, rfl, r1, r2⟩ := hp'
  have al : Z.vm.Alike P.U.vm := hZ.alike.trans X.warmed.alike
  obtain ⟨D, cfV, kV, iV, fV, hD, gV, stV, knV, obV, asV, slV⟩ := id V
  obtain ⟨D', cfC, kC, iC, fC, hD', gC, stC, -, -, asC, slC⟩ := id C
  cases hD.symm.trans hD'
  obtain ⟨D2, kD, e1, e2, e3, e4, e5⟩ := id E
  cases hD.symm.trans e1
  obtain ⟨c2, k2, i1, i2, i3, -⟩ := Cond.instantiable_spec wi
  cases e2.symm.trans i1
  cases e3.symm.trans i2
  obtain ⟨kU, u1, u2⟩ := al.2.2 _ _ e3
  have hB : Blank ST x D P.U := ⟨hD, ⟨knV, fun q hq => by rw [hq] at obV; cases obV⟩, by rw [al.findClass]; exact e2, kU, u1, by rw [u2]; exact i3, by rw [u2]; exact e5 i3⟩
  have F1 : Found ST "value" "[B" fV P.U := ⟨SBG.found_only al ⟨cfV, kV, iV, gV⟩, stV⟩
  have F2 : Found ST "coder" "B" fC P.U := ⟨SBG.found_only al ⟨cfC, kC, iC, gC⟩, stC⟩
  have hA : Ch b A P.U := ⟨⟨K.1, State.isArrayOf_alike al K.2.1, K.2.2, by omega⟩, hty⟩
  have hS : StaticIs P.U ST "COMPACT_STRINGS" "Z" (.int z) := by
    obtain ⟨cfS, iS, kS, fS, st, cS, t1, t2, t3, t4, t5, t6, t7⟩ := S
    exact StaticIs.there (s := { Z with heap := P.U.heap }) ⟨cfS, iS, kS, fS, st, cS, t1, t2, t3, t4, t5, (fun q => by rw [q] at t6; cases t6), t7⟩ al rfl
  obtain ⟨v, B, X', ⟨⟨hv, E', V', q1, q2, q3, q4, q5, q6, q7, q8, q9, q10, q11⟩, hl, hc, hs⟩, st⟩ := New1.pays x D fV fC b A z (tab_of (moved hZ hw)) hfr hlo m meth c P g ig mk _ X hg hsize hdg hW hn ⟨r1, r2, rfl, hB, F1, F2, hA, hS, hz, l0, l2, hp⟩
  have al' : Z.vm.Alike B.U.vm := hZ.alike.trans X'.warmed.alike
  have hsz : E'.slots.size = D.slots.size := by
    obtain ⟨-, -, -, kB, w1, w2, w3⟩ := q1
    obtain ⟨kB', y1, y2⟩ := al'.2.2 _ _ e3
    rw [q2.2.1] at w1
    cases w1.symm.trans y1
    rw [w3, e5 i3, y2]
  refine ⟨v, B, X', ⟨_, ⟨hv, ?_, ⟨by omega, fun y cy hy hn' => q10 y cy (by simpa using hn') hy, fun y cy hy => ?_⟩, q11, ⟨E', _, q1.1, by rw [q2.2.1]; exact e2, by rw [q2.2.1]; exact e3, by rw [q2.1]; exact obV, fun _ => by rw [hsz]; exact e5 i3⟩,
    ⟨E', cfV, kV, iV, fV, q1.1, gV, stV, by rw [q2.1]; exact knV, by rw [q2.1]; exact obV, by rw [q2.2.1]; exact asV, q3⟩, ⟨E', cfC, kC, iC, fC, q1.1, gC, stC, by rw [q2.1]; exact knV, by rw [q2.1]; exact obV, by rw [q2.2.1]; exact asC, q4⟩,
    ⟨V', ⟨q5.1, State.isArrayOf_alike al'.symm q5.2.1, q5.2.2.1⟩, q6, by rw [← al'.findClass]; exact q7, q8, fun j hj => by have := q9 j hj; rwa [Nat.zero_add] at this⟩, fun O n d w F n1 n2 => ?_⟩, hl, hc, hs⟩, st⟩
  · intro y hy
    simp only [List.mem_cons, List.not_mem_nil, or_false] at hy
    rcases hy with rfl | rfl <;> rfl
  · by_cases q : y = x
    · subst q
      cases hD.symm.trans hy
      exact ⟨E', q1.1, q2.2.1, q2.1, hsz⟩
    · exact ⟨cy, q10 y cy q hy, rfl, rfl, rfl⟩
  · obtain ⟨D3, cf, k, i, f, g1, g2, g3, g4, g5, g6, g7⟩ := F
    cases hD.symm.trans g1
    simp only [RoadKit.slotOf, g2, gV, gC, Option.map_some, Option.getD_some] at n1 n2
    exact ⟨E', cf, k, i, f, q1.1, g2, g3, by rw [q2.1]; exact g4, by rw [q2.1]; exact g5, by rw [q2.2.1]; exact g6, by rw [q2.2.2 f.slot (by simp [n1, n2])]; exact g7⟩
end StrChars.Road
namespace StrChars.Road
open Jvm Sem ClassFile Op Lib Jvm.Stand Jvm.Free Jvm.Free.XT
/-- WHAT COMES BACK, the byte[] as a list of values -/
def QA (Z : State) (x : Addr) (zn : Int32) (cs : List Int32) (h : Heap) (v : Option Value) (h' : Heap) (L : List Loc) : Prop := v = none ∧ (∀ y ∈ L, y.base = x) ∧ RoadKit.Keep h h' [x] ∧ h'.size = h.size + 1 ∧ RoadKit.Exa Z h' x ST ∧ RoadKit.Fld Z h' x ST "value" "[B" (.ref h.size) ∧ RoadKit.Fld Z h' x ST "coder" "B" (.int 0) ∧
  (∃ kb, Z.vm.findClass "[B" = some kb ∧ RoadKit.Arv Z h' h.size kb .byte zn (cs.map fun c => .int (lo8 c)) (.int 0)) ∧
  ∀ (O n d : String) (w : Value), RoadKit.Fld Z h x O n d w → RoadKit.slotOf Z O n d ≠ RoadKit.slotOf Z ST "value" "[B" → RoadKit.slotOf Z O n d ≠ RoadKit.slotOf Z ST "coder" "B" → RoadKit.Fld Z h' x O n d w
/-- **new String(chars) AT A CALL, THE ARRAYS AS LISTS**: the char[] at b holds cs, not empty, no char above 255 -/
theorem backArv {p : Program} {l : Launch} {e : Env} {R : Room} {s : State} {args : Array Value} {below : List Frame} {len W : Nat} {Z : State} {a0 : Array Value} {h : Heap} (hZ : Z.Warmed39 s.vm) (hw : ∀ d ∈ words, d.before a0 Z = true) {kI : Nat} (wi : (Jvm.Cond.instantiable ST kI).before a0 Z = true)
    {x b : Addr} {k : ClassId} {zn z : Int32} {cs : List Int32} {dv v0 c0 : Value} (E : RoadKit.Exa Z h x ST) (V : RoadKit.Fld Z h x ST "value" "[B" v0) (C : RoadKit.Fld Z h x ST "coder" "B" c0) (K : RoadKit.Arv Z h b k .char zn (cs.map Value.int) dv) (S : RoadKit.Sta Z h ST "COMPACT_STRINGS" "Z" (.int z)) (hz : ¬ z = 0)
    (hlen : zn.toNatClampNeg = cs.length) (h0 : 0 < cs.length) (hbig : cs.length ≤ 536870912) (hall : ∀ c ∈ cs, ¬ 255 < c) (hfr : 4 ≤ R.frames) (hlo : W + 65 ≤ R.locals) :
    Back l R p e below s args New1.yN len W (fun P a => a = #[.ref x, .ref b] ∧ P.U.heap = h ∧ P.cells + 1 ≤ R.cells ∧ P.slots + cs.length ≤ R.slots)
      (fun P _ v B => ∃ L, QA Z x zn cs h v B.U.heap L ∧ B.locs = P.locs ++ L ∧ B.cells = P.cells + 1 ∧ B.slots = P.slots + cs.length) := by
  obtain ⟨A, K1, K2, K3, K4, K5, K6⟩ := K
  have e : A.slots.size = cs.length := K3.trans hlen
  have hat : ∀ (i : Nat) (hi : i < cs.length), A.slots[i]? = some (.int cs[i]) := fun i hi => by rw [K5 i (by omega)]; simp [List.getD_eq_getElem?_getD, hi]
  have hcv : ∀ (i : Nat) (hi : i < cs.length), cv A i = cs[i] := fun i hi => by unfold cv; rw [hat i hi]
  have hty : Typed .char A := fun i v hv => by
    have hi : i < A.slots.size := (Array.getElem?_eq_some_iff.mp hv).1
    have q := K5 i hi
    rw [hv] at q
    rw [Option.some.inj q]
    exact K6 i hi
  refine Back.mono (back hZ hw wi E V C K1 hty S hz (by omega) (by omega) (fun i hi => by rw [hcv i (by omega)]; exact hall _ (List.getElem_mem _)) hfr hlo) (fun P a hp => ⟨hp.1, hp.2.1, hp.2.2.1, by rw [e]; exact hp.2.2.2⟩) (fun P a v B hp hq => ?_)
  obtain ⟨L, ⟨q1, q2, q3, q4, q5, q6, q7, ⟨V', v1, v2, v3, v4, v5⟩, q9⟩, hl, hc, hs⟩ := hq
  refine ⟨L, ⟨q1, q2, q3, q4, q5, q6, q7, ⟨V'.cls, v3, V', v1, rfl, by rw [v4, e, hlen], K4, fun i hi => ?_, fun i hi => ?_⟩, q9⟩, hl, hc, by rw [hs, e]⟩
  · have hi' : i < cs.length := by omega
    rw [v5 i (by omega), hcv i hi']; simp [List.getD_eq_getElem?_getD, hi']
  · have hi' : i < cs.length := by omega
    simp only [List.getD_eq_getElem?_getD, List.getElem?_map, List.getElem?_eq_getElem hi', Option.map_some, Option.getD_some]
    exact fits_lo8 _
end StrChars.Road
namespace StrChars.Road
open Jvm Sem ClassFile Op Lib Jvm.Stand Jvm.Free Jvm.Free.XT
/-- WHAT COMES BACK, in the writer's own shape -/
def QV (Z : State) (x : Addr) (N : Int32) (bs : List Int32) (h : Heap) (n0 : Nat) (v : Option Value) (h' : Heap) (L : List Loc) : Prop := v = none ∧ RoadKit.Fr n0 L ∧ RoadKit.Keep h h' [x] ∧ RoadKit.Exa Z h' x ST ∧ RoadKit.Fld Z h' x ST "coder" "B" (.int 0) ∧
  ∃ (t : Addr) (kb : ClassId), n0 ≤ t ∧ h.size ≤ t ∧ ¬ t = x ∧ RoadKit.Fld Z h' x ST "value" "[B" (.ref t) ∧ RoadKit.Arv Z h' t kb .byte N (bs.map Value.int) (.int 0)
/-- **new String(chars) AT A CALL, FOR THE WRITER**: a char[] of n known ints, each 0 to 255 -/
theorem backV {p : Program} {l : Launch} {e : Env} {R : Room} {s : State} {args : Array Value} {below : List Frame} {len W : Nat} {Z : State} {a0 : Array Value} {h : Heap} (hZ : Z.Warmed39 s.vm) (hw : ∀ d ∈ words, d.before a0 Z = true) {kI : Nat} (wi : (Jvm.Cond.instantiable ST kI).before a0 Z = true)
    {x b : Addr} {kC : ClassId} {cs bs : List Int32} {d v0 c0 : Value} {z N : Int32} {n n0 : Nat} (hx0 : n0 ≤ x) (hh0 : n0 ≤ h.size) (E : RoadKit.Exa Z h x ST) (V : RoadKit.Fld Z h x ST "value" "[B" v0) (C : RoadKit.Fld Z h x ST "coder" "B" c0) (K : RoadKit.Arv Z h b kC .char N (cs.map Value.int) d) (S : RoadKit.Sta Z h ST "COMPACT_STRINGS" "Z" (.int z)) (hz : ¬ z = 0)
    (hn : cs.length = n) (hN : N = Int32.ofNat n) (l0 : 0 < n) (l2 : n ≤ 4000) (hp : ∀ c ∈ cs, ¬ c < 0 ∧ ¬ (255 : Int32) < c) (hb : bs = cs.map (fun c => c.toInt8.toInt32)) (hfr : 4 ≤ R.frames) (hlo : W + 65 ≤ R.locals) :
    Back l R p e below s args (⟨"java/lang/String", "<init>", "([C)V"⟩ : MethodName) len W (fun P a => a = #[.ref x, .ref b] ∧ P.U.heap = h ∧ P.cells + 1 ≤ R.cells ∧ P.slots + n ≤ R.slots)
      (fun P _ v B => ∃ L, QV Z x N bs h n0 v B.U.heap L ∧ B.locs = P.locs ++ L ∧ B.cells = P.cells + 1 ∧ B.slots = P.slots + n) := by
  subst hn hN hb
  refine Back.mono (backArv hZ hw wi E V C K S hz (n32 (by omega)) l0 (by omega) (fun c hc => (hp c hc).2) hfr hlo) (fun P a hp => hp) (fun P a v B hp hq => ?_)
  obtain ⟨L, ⟨q1, q2, q3, q4, q5, q6, q7, ⟨kb, v1, v2⟩, q9⟩, hl, hc, hs⟩ := hq
  exact ⟨L, ⟨q1, fun y hy => by rw [q2 y hy]; exact hx0, q3, q5, q7, h.size, kb, hh0, Nat.le_refl _, Nat.ne_of_gt E.lt, q6, by rw [List.map_map]; exact v2⟩, hl, hc, hs⟩
end StrChars.Road
namespace StrChars
open Jvm Sem ClassFile Op Lib Jvm.Stand Jvm.Free.XT Jvm.Free.ALB Jvm.Free.JM Jvm.Free
open Jvm.Lib.Cold (StaticIs)
def hi8 (x : Int32) : Int32 := lo8 (x >>> ((8 : Int32) &&& 31))
/-- what StringUTF16.getChar makes of two bytes -/
def pairCh (u v : Int32) : Int32 := (((u &&& 255) <<< ((0 : Int32) &&& 31)) ||| ((v &&& 255) <<< ((8 : Int32) &&& 31))).toUInt32.toUInt16.toUInt32.toInt32
theorem lo8_and (x : Int32) : (lo8 x &&& 255).toBitVec.toNat = x.toBitVec.toNat % 256 := by
  have h : (lo8 x).toBitVec = (x.toBitVec.signExtend 8).signExtend 32 := by rw [lo8, Int8.toBitVec_toInt32, Int32.toBitVec_toInt8]
  rw [Int32.toBitVec_and, BitVec.toNat_and, h]
  have e : ((x.toBitVec.signExtend 8).signExtend 32).toNat % 256 = x.toBitVec.toNat % 256 := by
    rw [BitVec.toNat_signExtend]
    have hlt := x.toBitVec.isLt
    simp only [BitVec.toNat_setWidth, BitVec.toNat_signExtend]
    split <;> split <;> omega
  rw [← e]
  exact Nat.and_two_pow_sub_one_eq_mod _ 8
theorem pair_says {c : Int32} (h0 : ¬ c < 0) (h1 : ¬ 65535 < c) : pairCh (lo8 c) (hi8 c) = c := by
  rw [Int32.lt_iff_toInt_lt] at h0 h1
  have e0 : (0 : Int32).toInt = 0 := rfl
  have e1 : (65535 : Int32).toInt = 65535 := rfl
  have hc : c.toInt = c.toBitVec.toNat := by
    have := c.toBitVec.isLt
    have e : c.toInt = c.toBitVec.toInt := rfl
    rw [e] at h0 h1
    rw [e]
    rw [BitVec.toInt_eq_toNat_cond] at h0 h1 ⊢
    split at h0 <;> split <;> omega
  have hn : c.toBitVec.toNat < 65536 := by omega
  have a1 := lo8_and c
  have a2 : (hi8 c &&& 255).toBitVec.toNat = c.toBitVec.toNat / 256 := by
    rw [hi8, lo8_and]
    have e : ((8 : Int32) &&& 31) = 8 := by decide
    rw [e, Int32.toBitVec_shiftRight]
    have e2 : ((8 : Int32).toBitVec.smod 32) = 8#32 := by decide
    rw [e2, BitVec.sshiftRight_eq', BitVec.toNat_sshiftRight_of_msb_false (by rw [BitVec.msb_eq_false_iff_two_mul_lt]; omega)]
    show c.toBitVec.toNat >>> 8 % 256 = _
    rw [Nat.shiftRight_eq_div_pow]
    omega
  unfold pairCh
  apply Int32.toBitVec_inj.mp
  apply BitVec.eq_of_toNat_eq
  have f0 : ((0 : Int32) &&& 31) = 0 := by decide
  have f8 : ((8 : Int32) &&& 31) = 8 := by decide
  rw [f0, f8]
  have g : (((lo8 c &&& 255) <<< (0 : Int32)) ||| ((hi8 c &&& 255) <<< (8 : Int32))).toBitVec.toNat = c.toBitVec.toNat := by
    rw [Int32.toBitVec_or, Int32.toBitVec_shiftLeft, Int32.toBitVec_shiftLeft]
    have s0 : ((0 : Int32).toBitVec.smod 32) = 0#32 := by decide
    have s8 : ((8 : Int32).toBitVec.smod 32) = 8#32 := by decide
    rw [s0, s8, BitVec.toNat_or]
    simp only [BitVec.shiftLeft_eq', BitVec.toNat_shiftLeft, a1, a2]
    show (c.toBitVec.toNat % 256) <<< 0 % 2 ^ 32 ||| (c.toBitVec.toNat / 256) <<< 8 % 2 ^ 32 = _
    rw [Nat.shiftLeft_zero, Nat.mod_eq_of_lt (show c.toBitVec.toNat % 256 < 2 ^ 32 by omega), Nat.mod_eq_of_lt (show (c.toBitVec.toNat / 256) <<< 8 < 2 ^ 32 by rw [Nat.shiftLeft_eq]; omega), Nat.or_comm, ← Nat.shiftLeft_add_eq_or_of_lt (by omega), Nat.shiftLeft_eq]
    omega
  show BitVec.toNat (((((lo8 c &&& 255) <<< (0 : Int32)) ||| ((hi8 c &&& 255) <<< (8 : Int32))).toBitVec.setWidth 16).setWidth 32) = _
  rw [BitVec.toNat_setWidth, BitVec.toNat_setWidth, g]
  omega
end StrChars
namespace StrChars
open Jvm Sem ClassFile Op Lib Jvm.Stand Jvm.Free.XT Jvm.Free.ALB Jvm.Free.JM Jvm.Free
open Jvm.Lib.Cold (StaticIs)
/-- charAt's cast of a byte read back -/
def chr8 (u : Int32) : Int32 := (u &&& 255).toUInt32.toUInt16.toUInt32.toInt32
theorem chr8_lo8 {c : Int32} (h0 : ¬ c < 0) (h1 : ¬ 255 < c) : chr8 (lo8 c) = c := by
  have t : ∀ k : Fin 256, (Int32.ofNat k.val).toUInt32.toUInt16.toUInt32.toInt32 = Int32.ofNat k.val := by decide +kernel
  unfold chr8
  rw [lo8_mask h0 h1]
  rw [Int32.lt_iff_toInt_lt] at h0 h1
  have e0 : (0 : Int32).toInt = 0 := rfl
  have e1 : (255 : Int32).toInt = 255 := rfl
  obtain ⟨k, hk⟩ : ∃ k : Nat, c.toInt = k := ⟨c.toInt.toNat, by omega⟩
  have hx : c = Int32.ofNat k := Int32.toInt_inj.mp (by rw [hk, Int32.toInt_ofNat_small (by omega)])
  rw [hx]
  exact t ⟨k, by omega⟩
theorem narrow_ch {c : Int32} (h0 : ¬ c < 0) (h1 : ¬ 65535 < c) : narrow .char (.int c) = .int c := by
  have q : narrow .char (.int (pairCh (lo8 c) (hi8 c))) = .int (pairCh (lo8 c) (hi8 c)) := narrow_c _
  rwa [pair_says h0 h1] at q
end StrChars
end Jvm.Pilot.@@N@@
namespace Jvm.Pilot.@@N@@
open Jvm Jvm.ClassFile Sem Op Lib Jvm.Free Jvm.Stand Jvm.LawKit Jvm.RoadKit Bundle Jvm.Pilot.@@N@@.Jvm.D
theorem tw {a0 : Array Value} {Z : State} (hw : ∀ d ∈ tables_1, d.before a0 Z = true) (i : Nat) {d : Jvm.Cond} (h : tables_1[i]? = some d) : d.before a0 Z = true := hw d (List.mem_of_getElem? h)
theorem own_nat {j : Nat} (h : j < 2 ^ 31) : (Int32.ofNat j).toNatClampNeg = j := by
  have e : (Int32.ofNat j).toInt = (j : Int) := Int32.toInt_ofNat_of_lt h
  simp only [Int32.toNatClampNeg, e]; omega
theorem own_toInt {j : Nat} (h : j < 2 ^ 31) : (Int32.ofNat j).toInt = (j : Int) := Int32.toInt_ofNat_of_lt h
theorem own_nn {j : Nat} (h : j < 2 ^ 31) : ¬ Int32.ofNat j < 0 := fun q => by
  rw [Int32.lt_iff_toInt_lt, own_toInt h] at q
  have : (0 : Int32).toInt = 0 := by decide
  omega
theorem own_lt {i j : Nat} (hi : i < 2 ^ 31) (hj : j < 2 ^ 31) : Int32.ofNat i < Int32.ofNat j ↔ i < j := by
  rw [Int32.lt_iff_toInt_lt, own_toInt hi, own_toInt hj]; omega
theorem own_eqn {i j : Nat} (hi : i < 2 ^ 31) (hj : j < 2 ^ 31) : Int32.ofNat i = Int32.ofNat j ↔ i = j := by
  rw [← Int32.toInt_inj, own_toInt hi, own_toInt hj]; omega
theorem own_succ (j : Nat) : Int32.ofNat j + (1 : Int32) = Int32.ofNat (j + 1) := (Int32.ofNat_add j 1).symm
theorem own_getD {cs : List Int32} {j : Nat} (d : Value) (h : j < cs.length) (h2 : j < 2 ^ 31) : (cs.map Value.int).getD (Int32.ofNat j).toNatClampNeg d = .int (cs.getD j 0) := by
  rw [own_nat h2]
  simp [List.getD_eq_getElem?_getD, List.getElem?_map, List.getElem?_eq_getElem h]
theorem own_shl1 {j : Nat} (h : j < 2 ^ 30) : (Int32.ofNat j <<< ((1 : Int32) &&& 31)) = Int32.ofNat (2 * j) := by
  rw [← Int32.toInt_inj, Jvm.Kit.i32_shl (Int32.ofNat j) _ (k := 1) (by decide) (by rw [own_toInt (by omega)]; omega) (by rw [own_toInt (by omega)]; omega), own_toInt (by omega), own_toInt (by omega)]
  omega
theorem own_shr1 {j : Nat} (h : 2 * j < 2 ^ 31) : (Int32.ofNat (2 * j) >>> ((1 : Int32) &&& 31)) = Int32.ofNat j := by
  rw [← Int32.toInt_inj, Jvm.Kit.i32_shr (Int32.ofNat (2 * j)) _ (k := 1) (by decide), own_toInt h, own_toInt (by omega)]
  omega
theorem own_shr0 (c : Int32) : c >>> ((0 : Int32) &&& 31) = c := by
  rw [← Int32.toInt_inj, Jvm.Kit.i32_shr c _ (k := 0) (by decide)]
  omega
theorem own_i8 (x : Int32) : (x.toInt8.toInt32).toInt8.toInt32 = x.toInt8.toInt32 := by rw [Int8.toInt8_toInt32]
/-- the bytes of a text: the latin ones, with zeros behind -/
def latL (cs : List Int32) (j : Nat) : List Value := (cs.take j).map (fun c => Value.int (c.toInt8.toInt32)) ++ List.replicate (cs.length - j) (.int (0 : Int32))
theorem latL_zero (cs : List Int32) : latL cs 0 = List.replicate cs.length (.int (0 : Int32)) := by simp [latL]
theorem latL_len (cs : List Int32) {j : Nat} (h : j ≤ cs.length) : (latL cs j).length = cs.length := by simp [latL]; omega
theorem own_take_succ (cs : List Int32) {j : Nat} (h : j < cs.length) : cs.take (j + 1) = cs.take j ++ [cs.getD j 0] := by
  rw [List.take_add_one, List.getElem?_eq_getElem h, List.getD_eq_getElem?_getD, List.getElem?_eq_getElem h]; rfl
theorem latL_set (cs : List Int32) {j : Nat} (h : j < cs.length) : (latL cs j).set j (.int ((cs.getD j 0).toInt8.toInt32)) = latL cs (j + 1) := by
  unfold latL
  rw [own_take_succ cs h, List.map_append]
  obtain ⟨k, hk⟩ : ∃ k, cs.length - j = k + 1 := ⟨cs.length - j - 1, by omega⟩
  have hk2 : cs.length - (j + 1) = k := by omega
  have hl : ((cs.take j).map (fun c => Value.int (c.toInt8.toInt32))).length = j := by simp; omega
  rw [hk, hk2, List.replicate_succ, List.set_append_right _ _ (by omega), hl, Nat.sub_self]
  simp
/-- .. and as pairs of bytes -/
def u16 (cs : List Int32) : List Value := cs.flatMap (fun c => [.int (c.toInt8.toInt32), .int ((c >>> ((8 : Int32) &&& 31)).toInt8.toInt32)])
theorem u16_len (cs : List Int32) : (u16 cs).length = 2 * cs.length := by
  induction cs with
  | nil => rfl
  | cons a t ih => simp only [u16, List.flatMap_cons, List.length_append, List.length_cons, List.length_nil] at ih ⊢; omega
def u16L (cs : List Int32) (j : Nat) : List Value := u16 (cs.take j) ++ List.replicate (2 * (cs.length - j)) (.int (0 : Int32))
theorem u16L_zero (cs : List Int32) : u16L cs 0 = List.replicate (2 * cs.length) (.int (0 : Int32)) := by simp [u16L, u16]
theorem u16L_full (cs : List Int32) : u16L cs cs.length = u16 cs := by simp [u16L]
theorem u16L_len (cs : List Int32) {j : Nat} (h : j ≤ cs.length) : (u16L cs j).length = 2 * cs.length := by
  simp only [u16L, List.length_append, u16_len, List.length_take, List.length_replicate]; omega
theorem u16_app (a b : List Int32) : u16 (a ++ b) = u16 a ++ u16 b := by simp [u16]
theorem u16L_set (cs : List Int32) {j : Nat} (h : j < cs.length) : ((u16L cs j).set (2 * j) (.int ((cs.getD j 0).toInt8.toInt32))).set (2 * j + 1) (.int (((cs.getD j 0) >>> ((8 : Int32) &&& 31)).toInt8.toInt32)) = u16L cs (j + 1) := by
  unfold u16L
  rw [own_take_succ cs h, u16_app]
  obtain ⟨k, hk⟩ : ∃ k, cs.length - j = k + 1 := ⟨cs.length - j - 1, by omega⟩
  have hk2 : cs.length - (j + 1) = k := by omega
  have hl : (u16 (cs.take j)).length = 2 * j := by rw [u16_len]; simp; omega
  have e2 : 2 * (k + 1) = (2 * k + 1) + 1 := by omega
  rw [hk, hk2, e2, List.replicate_succ, List.replicate_succ, List.set_append_right _ _ (by omega), hl, Nat.sub_self, List.set_cons_zero, List.set_append_right _ _ (by omega), hl]
  have e3 : 2 * j + 1 - 2 * j = 1 := by omega
  rw [e3]
  simp [u16]
theorem u16_get (cs : List Int32) {j : Nat} (h : j < cs.length) : (u16 cs).getD (2 * j) (.int 0) = .int ((cs.getD j 0).toInt8.toInt32) ∧ (u16 cs).getD (2 * j + 1) (.int 0) = .int (((cs.getD j 0) >>> ((8 : Int32) &&& 31)).toInt8.toInt32) := by
  have e : cs = cs.take j ++ (cs.getD j 0 :: cs.drop (j + 1)) := by
    have h1 := List.take_append_drop j cs
    rw [List.drop_eq_getElem_cons h] at h1
    rw [List.getD_eq_getElem?_getD, List.getElem?_eq_getElem h]
    exact h1.symm
  have hl : (u16 (cs.take j)).length = 2 * j := by rw [u16_len]; simp; omega
  have e1 : u16 cs = u16 (cs.take j) ++ ([.int ((cs.getD j 0).toInt8.toInt32), .int (((cs.getD j 0) >>> ((8 : Int32) &&& 31)).toInt8.toInt32)] ++ u16 (cs.drop (j + 1))) := by
    rw [← List.append_assoc]
    conv => lhs; rw [e]
    rw [u16_app]
    simp only [u16, List.flatMap_cons, List.append_assoc]
  rw [e1]
  simp only [List.getD_eq_getElem?_getD]
  have e3 : 2 * j + 1 - 2 * j = 1 := by omega
  refine ⟨?_, ?_⟩
  · rw [List.getElem?_append_right (by omega), hl, Nat.sub_self]; rfl
  · rw [List.getElem?_append_right (by omega), hl, e3]; rfl
theorem own_decl {a0 : Array Value} {Z : State} {y : MethodName} {bytes : ByteArray} {ml : Nat} {ret : Option FieldType} (wi : (Cond.instanceMethod y).before a0 Z = true) (wc : (Cond.code y bytes ml ret).before a0 Z = true) : (Cond.declares y).before a0 Z = true := by
  obtain ⟨mk, methM, hn, hm, hs, -⟩ := Cond.instanceMethod_spec wi
  obtain ⟨m2, c2, q1, -, -, -, -, -, -, hsig⟩ := Cond.code_spec hn wc
  cases hm.symm.trans q1
  simp [Cond.before, Cond.holds, Cond.value, hn, hm, hs, hsig]
theorem own_nface {a0 : Array Value} {Z : State} {K : String} {x z y : MethodName} (ws : (Cond.selects K x z).before a0 Z = true) (hc : z.cls = y.cls) : NotFace Z y := fun r0 h0 => by
  obtain ⟨c2, r2, m2, q1, q2, q3, q4, kP, hkP, hkPi⟩ := Cond.selects_spec ws
  have e1 := findClass_of_methodNamed q3
  have e2 := findClass_of_methodNamed h0
  rw [hc, e2] at e1
  have e3 := Option.some.inj e1
  exact ⟨kP, by rw [e3]; exact hkP, hkPi⟩
theorem own_same {a0 : Array Value} {Z : State} {y : MethodName} (wi : (Cond.instanceMethod y).before a0 Z = true) (N : NotFace Z y) (hy : y.cls ≠ "java/lang/invoke/MethodHandle" ∧ y.cls ≠ "java/lang/invoke/VarHandle") : (Cond.sameMethod y.cls y.cls y.name y.desc).before a0 Z = true := by
  obtain ⟨mk, methM, hn, hm, hs, -⟩ := Cond.instanceMethod_spec wi
  have hf := State.methodFound?_of_named hn hy
  have hc := findClass_of_methodNamed hn
  obtain ⟨k, hk, hki⟩ := N _ hn
  have hn' : Z.methodNamed? { cls := y.cls, name := y.name, desc := y.desc } = some mk := hn
  simp [Cond.before, Cond.holds, Cond.value, hc, hf, hn', hk, hki]
theorem own_cpy {α : Type} (vs : List α) (d : α) {j n : Nat} (hj : j = 0) (hn : vs.length = n) : vs = (List.range n).map fun i => vs.getD (j + i) d := by
  subst hj hn
  apply List.ext_getElem?
  intro i
  by_cases h : i < vs.length
  · simp [List.getElem?_map, h, List.getD_eq_getElem?_getD]
  · simp [List.getElem?_map, h, Nat.le_of_not_lt h]
theorem own_padr {α : Type} (vs : List α) (d : α) {j k m : Nat} (hj : j = 0) : ∀ i, vs.getD i d = ((List.replicate m d).take j ++ vs ++ (List.replicate m d).drop k).getD i d := by
  intro i; subst hj
  simp only [List.take_zero, List.nil_append, List.drop_replicate, List.getD_eq_getElem?_getD]
  by_cases h : i < vs.length
  · rw [List.getElem?_append_left h]
  · rw [List.getElem?_append_right (by omega), List.getElem?_eq_none (by omega), List.getElem?_replicate]
    split <;> rfl
theorem own_c16 (x : Int32) : (x.toUInt32.toUInt16.toUInt32.toInt32).toUInt32.toUInt16.toUInt32.toInt32 = x.toUInt32.toUInt16.toUInt32.toInt32 := by
  have e1 : (x.toUInt32.toUInt16.toUInt32.toInt32).toUInt32 = x.toUInt32.toUInt16.toUInt32 := rfl
  rw [e1, UInt16.toUInt16_toUInt32]
theorem own_rng {cs : List Int32} {j : Nat} (h : ∀ c ∈ cs, ¬ c < 0 ∧ ¬ (65535 : Int32) < c) (hj : j < cs.length) : ¬ (cs.getD j 0) < 0 ∧ ¬ (65535 : Int32) < (cs.getD j 0) := by
  refine h _ ?_
  rw [List.getD_eq_getElem?_getD, List.getElem?_eq_getElem hj]
  exact List.getElem_mem hj
theorem own_coder {cs : List Int32} (h0 : 0 < cs.length) (hn : cs.length < 2 ^ 29) : nar .byte ((((Int32.ofNat cs.length - Int32.ofNat (2 * cs.length)).toUInt32 >>> ((31 : Int32) &&& 31).toUInt32).toInt32).toInt8.toInt32) = (1 : Int32) := by
  have e : ((Int32.ofNat cs.length - Int32.ofNat (2 * cs.length)).toUInt32 >>> ((31 : Int32) &&& 31).toUInt32).toInt32 = 1 := by
    have e1 : (Int32.ofNat cs.length - Int32.ofNat (2 * cs.length)).toInt = - (cs.length : Int) := by
      rw [Jvm.Kit.i32_sub (by rw [own_toInt (by omega), own_toInt (by omega)]; omega) (by rw [own_toInt (by omega), own_toInt (by omega)]; omega), own_toInt (by omega), own_toInt (by omega)]; omega
    generalize Int32.ofNat cs.length - Int32.ofNat (2 * cs.length) = x at e1
    have hb : 2 ^ 31 ≤ x.toBitVec.toNat := by
      have h1 : x.toInt = x.toBitVec.toInt := rfl
      rw [h1, BitVec.toInt_eq_toNat_cond] at e1
      split at e1
      · omega
      · omega
    have hl := x.toBitVec.isLt
    have hn31 : (((31 : Int32) &&& 31).toUInt32).toNat = 31 := by decide
    have e2 : ((x.toUInt32 >>> ((31 : Int32) &&& 31).toUInt32).toInt32).toBitVec.toNat = x.toBitVec.toNat / 2 ^ 31 := by
      simp only [UInt32.toBitVec_toInt32, UInt32.toBitVec_shiftRight, Int32.toBitVec_toUInt32]
      simp [BitVec.toNat_ushiftRight, Nat.shiftRight_eq_div_pow, hn31]
    rw [← Int32.toBitVec_inj]
    apply BitVec.eq_of_toNat_eq
    rw [e2]
    have : (1 : Int32).toBitVec.toNat = 1 := by decide
    omega
  rw [e]; decide
def jmin (a b : Int32) : Int32 := if b < a then b else a
abbrev lat (cs : List Int32) : List Int32 := cs.map (fun c => c.toInt8.toInt32)
theorem lat_len (cs : List Int32) : (lat cs).length = cs.length := List.length_map ..
theorem own_add (a b : Nat) : Int32.ofNat a + Int32.ofNat b = Int32.ofNat (a + b) := (Int32.ofNat_add a b).symm
theorem own_subn {a b : Nat} (h : a ≤ b) (hb : b < 2 ^ 31) : ¬ (0 : Int32) < Int32.ofNat a - Int32.ofNat b := by
  have h0 : (0 : Int32).toInt = 0 := by decide
  rw [Int32.lt_iff_toInt_lt, Jvm.Kit.i32_sub (by rw [own_toInt (by omega), own_toInt hb]; omega) (by rw [own_toInt (by omega), own_toInt hb]; omega), own_toInt (by omega), own_toInt hb, h0]; omega
theorem own_z0 : (0 : Int32).toNatClampNeg = 0 := by decide
theorem own_zs0 : ((0 : Int32) <<< ((0 : Int32) &&& 31)).toNatClampNeg = 0 := by decide
theorem own_zs1 : ((0 : Int32) <<< ((1 : Int32) &&& 31)).toNatClampNeg = 0 := by decide
theorem own_jmin {a b : Nat} (h : a ≤ b) (hb : b < 2 ^ 31) : jmin (Int32.ofNat a) (Int32.ofNat b) = Int32.ofNat a := by
  rw [jmin, if_neg (fun q => by have := (own_lt hb (by omega)).mp q; omega)]
theorem own_jmin' {a b : Nat} (h : a < b) (hb : b < 2 ^ 31) : jmin (Int32.ofNat b) (Int32.ofNat a) = Int32.ofNat a := by
  rw [jmin, if_pos ((own_lt (by omega) hb).mpr h)]
theorem u16_set (cs : List Int32) {j : Nat} (h : j < cs.length) (c : Int32) : ((u16 cs).set (2 * j) (.int (c.toInt8.toInt32))).set (2 * j + 1) (.int ((c >>> ((8 : Int32) &&& 31)).toInt8.toInt32)) = u16 (cs.set j c) := by
  induction cs generalizing j with
  | nil => exact absurd h (Nat.not_lt_zero _)
  | cons d t ih =>
    cases j with
    | zero => simp [u16]
    | succ j =>
      have h2 := ih (j := j) (by simpa using h)
      have e : ∀ (x : Int32) (l : List Int32), u16 (x :: l) = .int (x.toInt8.toInt32) :: .int ((x >>> ((8 : Int32) &&& 31)).toInt8.toInt32) :: u16 l := fun x l => by simp [u16]
      rw [e, List.set_cons_succ, e, ← h2, show 2 * (j + 1) = 2 * j + 1 + 1 by omega, List.set_cons_succ, List.set_cons_succ, List.set_cons_succ, List.set_cons_succ]
theorem lat_set (cs : List Int32) (j : Nat) (c : Int32) : ((lat cs).map Value.int).set j (.int (c.toInt8.toInt32)) = (lat (cs.set j c)).map Value.int := by simp [lat, List.map_set]
theorem own_lat1 {c : Int32} (r : ¬ c < 0 ∧ ¬ (255 : Int32) < c) : ((c.toInt8.toInt32) &&& (255 : Int32)) = c := by
  have h0 : (0 : Int32).toInt = 0 := by decide
  have h5 : (255 : Int32).toInt = 255 := by decide
  have r1 := r.1; have r2 := r.2
  rw [Int32.lt_iff_toInt_lt] at r1 r2
  have e1 : ((c.toInt8.toInt32) &&& (255 : Int32)).toInt = (c.toInt8.toInt32).toInt % 2 ^ 8 := Jvm.Kit.i32_mask _ _ (k := 8) (by decide) (by decide)
  have e2 : (c.toInt8.toInt32).toInt = c.toInt.bmod (2 ^ 8) := by rw [Int8.toInt_toInt32, Int32.toInt_toInt8]
  apply Int32.toInt_inj.mp
  rw [e1, e2]
  have h3 := @Int.bmod_def c.toInt (2 ^ 8)
  rw [h3]
  split <;> omega
theorem own_latc {cs : List Int32} {i : Nat} (hL : ∀ c ∈ cs, ¬ c < 0 ∧ ¬ (255 : Int32) < c) (h : i < cs.length) : (((lat cs).getD i 0) &&& (255 : Int32)) = cs.getD i 0 := by
  have e : (lat cs).getD i 0 = (cs.getD i 0).toInt8.toInt32 := by
    simp [lat, List.getD_eq_getElem?_getD, List.getElem?_map, List.getElem?_eq_getElem h]
  rw [e]
  refine own_lat1 (hL _ ?_)
  rw [List.getD_eq_getElem?_getD, List.getElem?_eq_getElem h]
  exact List.getElem_mem h
theorem own_c255 {c : Int32} (r : ¬ c < 0 ∧ ¬ (255 : Int32) < c) : ¬ c < 0 ∧ ¬ (65535 : Int32) < c := ⟨r.1, fun q => r.2 (by
  have h5 : (255 : Int32).toInt = 255 := by decide
  have h6 : (65535 : Int32).toInt = 65535 := by decide
  rw [Int32.lt_iff_toInt_lt] at q ⊢; omega)⟩
def isoC (c : Int32) : Int32 := if (159 : Int32) < c then 0 else if ¬ c < (127 : Int32) then 1 else if ((c.toUInt32 >>> ((5 : Int32) &&& 31).toUInt32).toInt32) = 0 then 1 else 0
def expC (c : Int32) : Int32 := if ¬ (31 : Int32) < c then 63 else if c < (127 : Int32) then c else if (159 : Int32) < c then c else 63
theorem own_ush5 {c : Int32} (h : ¬ c < 0) : ((c.toUInt32 >>> ((5 : Int32) &&& 31).toUInt32).toInt32) = 0 ↔ ¬ (31 : Int32) < c := by
  have h0 : (0 : Int32).toInt = 0 := by decide
  have h31 : (31 : Int32).toInt = 31 := by decide
  rw [Int32.lt_iff_toInt_lt] at h ⊢
  have hn5 : (((5 : Int32) &&& 31).toUInt32).toNat = 5 := by decide
  have e1 : c.toInt = c.toBitVec.toInt := rfl
  have hb : c.toInt = (c.toBitVec.toNat : Int) := by
    rw [BitVec.toInt_eq_toNat_cond] at e1
    have hl := c.toBitVec.isLt
    split at e1
    · exact e1
    · omega
  have e2 : ((c.toUInt32 >>> ((5 : Int32) &&& 31).toUInt32).toInt32).toBitVec.toNat = c.toBitVec.toNat / 2 ^ 5 := by
    simp only [UInt32.toBitVec_toInt32, UInt32.toBitVec_shiftRight, Int32.toBitVec_toUInt32]
    simp [BitVec.toNat_ushiftRight, Nat.shiftRight_eq_div_pow, hn5]
  have hz : (0 : Int32).toBitVec.toNat = 0 := by decide
  constructor
  · intro q; rw [q, hz] at e2; omega
  · intro q
    rw [← Int32.toBitVec_inj]
    apply BitVec.eq_of_toNat_eq
    rw [e2, hz]; omega
theorem own_iso {c : Int32} (h : ¬ c < 0) : expC c = if isoC c = 0 then c else 63 := by
  have h31 : (31 : Int32).toInt = 31 := by decide
  have h127 : (127 : Int32).toInt = 127 := by decide
  have h159 : (159 : Int32).toInt = 159 := by decide
  unfold isoC expC
  have hu := own_ush5 h
  generalize ((c.toUInt32 >>> ((5 : Int32) &&& 31).toUInt32).toInt32) = z at hu ⊢
  by_cases a : (159 : Int32) < c <;> by_cases b : c < (127 : Int32) <;> by_cases d : (31 : Int32) < c <;> simp [a, b, d, hu] <;> (simp only [Int32.lt_iff_toInt_lt] at a b d; omega)
theorem isoC_one {c : Int32} (h : ¬ isoC c = 0) : isoC c = 1 := by unfold isoC at *; split <;> (try split) <;> (try split) <;> simp_all
theorem own_e255 {c : Int32} : (255 : Int32) < expC c ↔ (255 : Int32) < c := by
  have h31 : (31 : Int32).toInt = 31 := by decide
  have h63 : (63 : Int32).toInt = 63 := by decide
  have h127 : (127 : Int32).toInt = 127 := by decide
  have h159 : (159 : Int32).toInt = 159 := by decide
  have h255 : (255 : Int32).toInt = 255 := by decide
  unfold expC
  simp only [Int32.lt_iff_toInt_lt]
  split
  · omega
  · split
    · rfl
    · split
      · rfl
      · omega
theorem own_erng {c : Int32} (r : ¬ c < 0 ∧ ¬ (65535 : Int32) < c) : ¬ expC c < 0 ∧ ¬ (65535 : Int32) < expC c := by
  unfold expC; split
  · decide
  · split
    · exact r
    · split
      · exact r
      · decide
def prt (cs : List Int32) (j : Nat) : List Int32 := (cs.take j).map expC ++ cs.drop j
theorem prt_zero (cs : List Int32) : prt cs 0 = cs := by simp [prt]
theorem prt_full (cs : List Int32) : prt cs cs.length = cs.map expC := by simp [prt]
theorem prt_len (cs : List Int32) (j : Nat) : (prt cs j).length = cs.length := by simp [prt]; omega
theorem prt_get (cs : List Int32) (j : Nat) : (prt cs j).getD j 0 = cs.getD j 0 := by
  by_cases h : j < cs.length
  · have e : ((cs.take j).map expC).length = j := by simp; omega
    rw [prt, List.getD_eq_getElem?_getD, List.getElem?_append_right (by omega), e, Nat.sub_self, List.getElem?_drop, Nat.add_zero, List.getD_eq_getElem?_getD]
  · rw [List.getD_eq_getElem?_getD, List.getElem?_eq_none (by rw [prt_len]; omega), List.getD_eq_getElem?_getD, List.getElem?_eq_none (by omega)]
theorem prt_set (cs : List Int32) {j : Nat} (h : j < cs.length) : (prt cs j).set j (expC (cs.getD j 0)) = prt cs (j + 1) := by
  have e : ((cs.take j).map expC).length = j := by simp; omega
  rw [prt, prt, own_take_succ cs h, List.set_append_right _ _ (by omega), e, Nat.sub_self, List.drop_eq_getElem_cons h, List.set_cons_zero, List.map_append, List.append_assoc]; rfl
theorem prt_mem {P : Int32 → Prop} {cs : List Int32} (h : ∀ c ∈ cs, P c) (he : ∀ c, P c → P (expC c)) (j : Nat) : ∀ c ∈ prt cs j, P c := by
  intro c hc
  rcases List.mem_append.mp hc with hc | hc
  · obtain ⟨d, hd, rfl⟩ := List.mem_map.mp hc
    exact he _ (h _ (List.mem_of_mem_take hd))
  · exact h _ (List.mem_of_mem_drop hc)
theorem own_setself (l : List Int32) {j : Nat} (h : j < l.length) : l.set j (l.getD j 0) = l := by
  apply List.ext_getElem?
  intro i
  rw [List.getElem?_set]
  split
  · rename_i q; subst q; first | (rw [if_pos h, List.getD_eq_getElem?_getD, List.getElem?_eq_getElem h]; rfl) | (rw [List.getD_eq_getElem?_getD, List.getElem?_eq_getElem h]; rfl)
  · rfl
theorem own_chr (x : Int32) : ¬ (nar .char x) < 0 ∧ ¬ (65535 : Int32) < nar .char x := by
  have h := fits_nar_char x
  simp only [fits, Bool.and_eq_true, decide_eq_true_eq] at h
  exact ⟨Int32.not_lt.mpr h.1, Int32.not_lt.mpr h.2⟩
theorem own_nc {c : Int32} (r : ¬ c < 0 ∧ ¬ (65535 : Int32) < c) : nar .char c = c := Value.int.inj (StrChars.narrow_ch r.1 r.2)
theorem own_fitc {c : Int32} (r : ¬ c < 0 ∧ ¬ (65535 : Int32) < c) : fits .char (.int c) = true := by
  have h := fits_nar_char c
  rw [own_nc r] at h; exact h
theorem own_big (cs : List Int32) : (∀ c ∈ cs, ¬ (255 : Int32) < c) ∨ ∃ m, m < cs.length ∧ (∀ j, j < m → ¬ ((255 : Int32) < cs.getD j 0)) ∧ (255 : Int32) < cs.getD m 0 := by
  induction cs with
  | nil => exact Or.inl (fun c hc => nomatch hc)
  | cons a t ih =>
    by_cases ha : (255 : Int32) < a
    · exact Or.inr ⟨0, by simp, fun j hj => absurd hj (Nat.not_lt_zero _), ha⟩
    · rcases ih with h | ⟨m, hm, hp, he⟩
      · refine Or.inl (fun c hc => ?_)
        rcases List.mem_cons.mp hc with rfl | hc
        · exact ha
        · exact h c hc
      · refine Or.inr ⟨m + 1, by simp; omega, fun j hj => ?_, he⟩
        cases j with
        | zero => exact ha
        | succ j => exact hp j (by omega)
theorem own_getmem {cs : List Int32} {j : Nat} (h : j < cs.length) : cs.getD j 0 ∈ cs := by
  rw [List.getD_eq_getElem?_getD, List.getElem?_eq_getElem h]; exact List.getElem_mem h
theorem own_rngL {cs : List Int32} (hcs : ∀ c ∈ cs, ¬ c < 0 ∧ ¬ (65535 : Int32) < c) (hL : ∀ c ∈ cs, ¬ (255 : Int32) < c) : ∀ c ∈ cs, ¬ c < 0 ∧ ¬ (255 : Int32) < c := fun c h => ⟨(hcs c h).1, hL c h⟩
theorem own_nb (c : Int32) : nar .boolean (isoC c) = isoC c := by
  by_cases h : isoC c = 0
  · rw [h]; decide
  · rw [isoC_one h]; decide
theorem own_or {a b : Int32} (ha : ¬ a < 0) (hb : ¬ b < 0) : ¬ (a ||| b) < 0 := by
  have h0 : (0 : Int32).toInt = 0 := by decide
  have k : ∀ x : Int32, x < 0 ↔ x.toBitVec.msb = true := fun x => by
    rw [Int32.lt_iff_toInt_lt, h0, BitVec.msb_eq_toInt]
    have : x.toInt = x.toBitVec.toInt := rfl
    rw [this]; simp
  rw [k] at ha hb ⊢
  rw [Int32.toBitVec_or, BitVec.msb_or]
  simp_all
theorem own_erngL {c : Int32} (r : ¬ c < 0 ∧ ¬ (255 : Int32) < c) : ¬ expC c < 0 ∧ ¬ (255 : Int32) < expC c :=
  ⟨(own_erng (own_c255 r)).1, fun q => r.2 (own_e255.mp q)⟩
theorem own_mget {cs : List Int32} {j : Nat} (h : j < cs.length) : (cs.map expC).getD j 0 = expC (cs.getD j 0) := by
  simp [List.getD_eq_getElem?_getD, List.getElem?_map, List.getElem?_eq_getElem h]
theorem own_mapL {cs : List Int32} (h : ∀ c ∈ cs, ¬ c < 0 ∧ ¬ (255 : Int32) < c) : ∀ c ∈ cs.map expC, ¬ c < 0 ∧ ¬ (255 : Int32) < c := by
  intro c hc
  obtain ⟨d, hd, rfl⟩ := List.mem_map.mp hc
  exact own_erngL (h d hd)
theorem own_mapU {cs : List Int32} (h : ∀ c ∈ cs, ¬ c < 0 ∧ ¬ (65535 : Int32) < c) : ∀ c ∈ cs.map expC, ¬ c < 0 ∧ ¬ (65535 : Int32) < c := by
  intro c hc
  obtain ⟨d, hd, rfl⟩ := List.mem_map.mp hc
  exact own_erng (h d hd)
theorem own_sel5 (x : Int32) : (x &&& (2147483647 : Int32)) % (5 : Int32) = 0 ∨ (x &&& (2147483647 : Int32)) % (5 : Int32) = 1 ∨ (x &&& (2147483647 : Int32)) % (5 : Int32) = 2 ∨ (x &&& (2147483647 : Int32)) % (5 : Int32) = 3 ∨ (x &&& (2147483647 : Int32)) % (5 : Int32) = 4 := by
  have e1 : (x &&& (2147483647 : Int32)).toInt = x.toInt % 2 ^ 31 := Jvm.Kit.i32_mask x _ (k := 31) (by decide) (by decide)
  have e2 : ((x &&& (2147483647 : Int32)) % (5 : Int32)).toInt = (x &&& (2147483647 : Int32)).toInt.tmod 5 := by rw [Int32.toInt_mod]; rfl
  have h0 : 0 ≤ (x &&& (2147483647 : Int32)).toInt := by omega
  rw [Int.tmod_eq_emod_of_nonneg h0] at e2
  generalize (x &&& (2147483647 : Int32)) % (5 : Int32) = y at e2
  have k0 : (0 : Int32).toInt = 0 := by decide
  have k1 : (1 : Int32).toInt = 1 := by decide
  have k2 : (2 : Int32).toInt = 2 := by decide
  have k3 : (3 : Int32).toInt = 3 := by decide
  have k4 : (4 : Int32).toInt = 4 := by decide
  simp only [← Int32.toInt_inj]
  omega
theorem own_backH {p : Program} {l : Launch} {e : Env} {R : Room} {s : State} {args : Array Value} {below : List Frame} {Z : State} {a0 : Array Value} {EL : List (String × Nat)} {h : Heap} {vm0 : Vm} {y : MethodName} {bytes : ByteArray} {maxL : Nat} {ret : Option FieldType} {rm : Room} {len W : Nat} {as' : Array Value} {Q : Option Value → Heap → List Loc → Prop}
    (hM : MetFree l y (head1 [Jvm.Cond.code y bytes maxL ret] rm) (fun a U => a = as' ∧ Z.Warmed39 U.vm ∧ U.heap = h ∧ CHv Z EL U.vm h) (fun _ _ _ _ _ => True) (fun _ U o U' => ∃ v L, o = .returned v ∧ Q v U'.heap L ∧ ReturnedEndW U o U' L rm.cells rm.slots))
    (hZ : Z.Warmed39 vm0) (wc : (Jvm.Cond.code y bytes maxL ret).before a0 Z = true) (wz : (Jvm.Cond.initialized y.cls).before a0 Z = true) (hf : rm.frames + 1 ≤ R.frames) (hl : W + (maxL + 11) + rm.locals ≤ R.locals) (hEL : EW Z a0 EL) (H : CHv Z EL vm0 h) :
    BackS l R p e below (s.setVm vm0) args y len W (fun A a => a = as' ∧ A.U.heap = h ∧ A.cells + rm.cells ≤ R.cells ∧ A.slots + rm.slots ≤ R.slots)
      (fun A _ v B => ∃ L, Q v B.U.heap L ∧ B.locs = A.locs ++ L ∧ B.cells = A.cells + rm.cells ∧ B.slots = A.slots + rm.slots) := by
  refine BackS.of_freeW (bytes := bytes) (maxL := maxL) (ret := ret) (E := fun _ _ o t L k n => k = rm.cells ∧ n = rm.slots ∧ ∃ v, o = .returned v ∧ Q v t.heap L) hM hf hl ?_ ?_ (fun _ _ _ _ _ _ _ _ _ => trivial) ?_ ?_
  · intro m meth c A a Y hp
    have hU : Z.Warmed39 A.U.vm := wtrans (s := s.setVm vm0) hZ Y.warmed
    exact ⟨by show (Jvm.Cond.and _ .tt).before a A.U = true; rw [Cond.before_and, mv hU wc]; rfl, mv hU wc, mv hU wz, hp.2.2.1, hp.2.2.2⟩
  · intro m meth c A a g mk Y hp
    exact ⟨hp.1, wtrans (s := s.setVm vm0) hZ Y.warmed, hp.2.1, (CHv.at Y hZ hEL H).1⟩
  · intro _ _ _ _ hq
    obtain ⟨v, L, h1, h2, h3⟩ := hq
    exact ⟨L, _, _, h3, rfl, rfl, v, h1, h2⟩
  · intro m meth c A a g mk v t L k n Y hp _ _ hq
    obtain ⟨e1, e2, v', e3, e4⟩ := hq
    cases e3; subst e1 e2
    exact ⟨L, e4, rfl, rfl, rfl⟩
abbrev EL1 : List (String × Nat) := [("java/lang/String", 7)]
abbrev Rm (f c s l : Nat) : Room := { frames := f, cells := c, slots := s, locals := l }
abbrev mN0 : MethodName := ⟨"java/lang/StringUTF16", "getChar", "([BI)C"⟩
abbrev mN1 : MethodName := ⟨"java/lang/StringUTF16", "putChar", "([BII)V"⟩
abbrev mN2 : MethodName := ⟨"java/lang/StringUTF16", "newBytesLength", "(I)I"⟩
abbrev mN3 : MethodName := ⟨"java/lang/StringUTF16", "newBytesFor", "(I)[B"⟩
abbrev mN4 : MethodName := ⟨"java/lang/StringUTF16", "compress", "([CI[BII)I"⟩
abbrev mN5 : MethodName := ⟨"java/lang/StringUTF16", "toBytes", "([CII)[B"⟩
abbrev mN6 : MethodName := ⟨"java/lang/StringUTF16", "compress", "([CII)[B"⟩
abbrev mN7 : MethodName := ⟨"java/lang/StringUTF16", "coderFromArrayLen", "([BI)B"⟩
abbrev mN8 : MethodName := ⟨"java/lang/String", "<init>", "([CIILjava/lang/Void;)V"⟩
abbrev mN9 : MethodName := ⟨"java/lang/String", "<init>", "([C)V"⟩
abbrev mN10 : MethodName := ⟨"java/lang/String", "coder", "()B"⟩
abbrev mN11 : MethodName := ⟨"java/lang/String", "isLatin1", "()Z"⟩
abbrev mN12 : MethodName := ⟨"java/lang/String", "length", "()I"⟩
abbrev mN13 : MethodName := ⟨"java/lang/Math", "min", "(II)I"⟩
abbrev mN14 : MethodName := ⟨"java/util/Arrays", "checkLength", "(II)V"⟩
abbrev mN15 : MethodName := ⟨"java/util/Arrays", "copyOfRangeByte", "([BII)[B"⟩
abbrev mN16 : MethodName := ⟨"java/util/Arrays", "copyOfRange", "([BII)[B"⟩
abbrev mN17 : MethodName := ⟨"jdk/internal/util/Preconditions", "checkIndex", "(IILjava/util/function/BiFunction;)I"⟩
abbrev mN18 : MethodName := ⟨"java/lang/String", "checkIndex", "(II)V"⟩
abbrev mN19 : MethodName := ⟨"java/lang/AbstractStringBuilder", "isLatin1", "()Z"⟩
abbrev mN20 : MethodName := ⟨"java/lang/AbstractStringBuilder", "length", "()I"⟩
abbrev mN21 : MethodName := ⟨"java/lang/StringBuilder", "length", "()I"⟩
abbrev mN22 : MethodName := ⟨"java/lang/AbstractStringBuilder", "getValue", "()[B"⟩
abbrev mN23 : MethodName := ⟨"java/lang/String", "getBytes", "([BIB)V"⟩
abbrev mN24 : MethodName := ⟨"java/lang/AbstractStringBuilder", "inflateIfNeededFor", "(Ljava/lang/String;)V"⟩
abbrev mN25 : MethodName := ⟨"java/lang/AbstractStringBuilder", "putStringAt", "(ILjava/lang/String;)V"⟩
abbrev mN26 : MethodName := ⟨"java/lang/AbstractStringBuilder", "ensureCapacityInternal", "(I)V"⟩
abbrev mN27 : MethodName := ⟨"java/lang/AbstractStringBuilder", "append", "(Ljava/lang/String;)Ljava/lang/AbstractStringBuilder;"⟩
abbrev mN28 : MethodName := ⟨"java/lang/StringBuilder", "append", "(Ljava/lang/String;)Ljava/lang/StringBuilder;"⟩
abbrev mN29 : MethodName := ⟨"java/lang/StringBuilder", "append", "(Ljava/lang/String;)Ljava/lang/AbstractStringBuilder;"⟩
abbrev mN30 : MethodName := ⟨"java/lang/AbstractStringBuilder", "<init>", "(Ljava/lang/String;)V"⟩
abbrev mN31 : MethodName := ⟨"java/lang/StringBuilder", "<init>", "(Ljava/lang/String;)V"⟩
abbrev mN32 : MethodName := ⟨"java/lang/StringUTF16", "length", "([B)I"⟩
abbrev mN33 : MethodName := ⟨"java/lang/StringUTF16", "checkIndex", "(I[B)V"⟩
abbrev mN34 : MethodName := ⟨"java/lang/StringUTF16", "putCharSB", "([BII)V"⟩
abbrev mN35 : MethodName := ⟨"java/lang/Character", "isISOControl", "(I)Z"⟩
abbrev mN36 : MethodName := ⟨"java/lang/Character", "isISOControl", "(C)Z"⟩
abbrev mN37 : MethodName := ⟨"java/lang/StringLatin1", "canEncode", "(C)Z"⟩
abbrev mN38 : MethodName := ⟨"java/lang/AbstractStringBuilder", "charAt", "(I)C"⟩
abbrev mN39 : MethodName := ⟨"java/lang/StringBuilder", "charAt", "(I)C"⟩
abbrev mN40 : MethodName := ⟨"java/lang/AbstractStringBuilder", "setCharAt", "(IC)V"⟩
abbrev mN41 : MethodName := ⟨"java/lang/StringBuilder", "setCharAt", "(IC)V"⟩
abbrev mN42 : MethodName := ⟨"jdk/internal/util/Preconditions", "checkFromIndexSize", "(IIILjava/util/function/BiFunction;)I"⟩
abbrev mN43 : MethodName := ⟨"java/lang/String", "checkBoundsOffCount", "(III)I"⟩
abbrev mN44 : MethodName := ⟨"java/lang/StringUTF16", "checkBoundsOffCount", "(II[B)V"⟩
abbrev mN45 : MethodName := ⟨"java/lang/StringUTF16", "compress", "([BI[BII)I"⟩
abbrev mN46 : MethodName := ⟨"java/lang/StringUTF16", "compress", "([BII)[B"⟩
abbrev mN47 : MethodName := ⟨"java/lang/String", "<init>", "(Ljava/lang/AbstractStringBuilder;Ljava/lang/Void;)V"⟩
abbrev mN48 : MethodName := ⟨"java/lang/String", "<init>", "(Ljava/lang/StringBuilder;)V"⟩
abbrev mN49 : MethodName := ⟨"java/lang/StringBuilder", "toString", "()Ljava/lang/String;"⟩
abbrev mN50 : MethodName := ⟨"com/example/tidemark/tidemark/core/ReportLines", "printable", "(Ljava/lang/String;)Ljava/lang/String;"⟩
abbrev mN51 : MethodName := ⟨"com/example/tidemark/tidemark/core/ReportLinesPrintablePinLaw", "expect", "(C)C"⟩
abbrev mN52 : MethodName := ⟨"java/lang/StringLatin1", "charAt", "([BI)C"⟩
abbrev mN53 : MethodName := ⟨"java/lang/String", "charAt", "(I)C"⟩
abbrev mN54 : MethodName := ⟨"com/example/tidemark/tidemark/core/ReportLinesPrintablePinLaw", "at", "(Ljava/lang/String;IIC)Z"⟩
abbrev mN55 : MethodName := ⟨"java/lang/StringUTF16", "charAt", "([BI)C"⟩
abbrev mN56 : MethodName := ⟨"com/example/tidemark/tidemark/core/ReportLinesPrintablePinLaw", "make", "(ICCCC)[C"⟩
abbrev SAD (Z : State) : Prop := Sta Z Z.heap "java/lang/StringUTF16" "$assertionsDisabled" "Z" (.int (1 : Int32))
abbrev SHI (Z : State) : Prop := Sta Z Z.heap "java/lang/StringUTF16" "HI_BYTE_SHIFT" "I" (.int (0 : Int32))
abbrev SLO (Z : State) : Prop := Sta Z Z.heap "java/lang/StringUTF16" "LO_BYTE_SHIFT" "I" (.int (8 : Int32))
abbrev SCS (Z : State) (c : Int32) : Prop := Sta Z Z.heap "java/lang/String" "COMPACT_STRINGS" "Z" (.int c)

abbrev SFM (Z : State) (v : Value) : Prop := Sta Z Z.heap "jdk/internal/util/Preconditions" "SIOOBE_FORMATTER" "Ljava/util/function/BiFunction;" v
abbrev vI (i : Int32) : Slot := .val (.int i)
abbrev vR (a : Addr) : Slot := .val (.ref a)
abbrev SS (p : Program) (e : Env) (below : List Frame) (T : State) (m : MethodId) (pc : Nat) (ls : Array Slot) (st : List Value) (t : State) : Prop := Steps p.tables e below (T.setTop (mkF m pc ls st)) t
abbrev cD0 := jdk_52_method_5_code
abbrev cD1 := jdk_52_method_4_code
abbrev cD2 := jdk_52_method_3_code
abbrev cD3 := jdk_52_method_2_code
abbrev cD4 := jdk_52_method_21_code
abbrev cD5 := jdk_52_method_14_code
abbrev cD6 := jdk_52_method_16_code
abbrev cD7 := jdk_52_method_15_code
abbrev cD8 := jdk_42_method_149_code
abbrev cD9 := jdk_42_method_3_code
abbrev cD10 := jdk_42_method_152_code
abbrev cD11 := jdk_42_method_154_code
abbrev cD12 := jdk_42_method_54_code
abbrev cD13 := jdk_29_method_69_code
abbrev cD14 := jdk_65_method_131_code
abbrev cD15 := jdk_65_method_133_code
abbrev cD16 := jdk_65_method_132_code
abbrev cD17 := jdk_41_method_11_code
abbrev cD18 := jdk_42_method_155_code
abbrev cD19 := jdk_68_method_68_code
abbrev cD20 := jdk_68_method_6_code
abbrev cD21 := jdk_67_method_93_code
abbrev cD22 := jdk_68_method_64_code
abbrev cD23 := jdk_42_method_147_code
abbrev cD24 := jdk_68_method_71_code
abbrev cD25 := jdk_68_method_73_code
abbrev cD26 := jdk_68_method_9_code
abbrev cD27 := jdk_68_method_22_code
abbrev cD28 := jdk_67_method_7_code
abbrev cD29 := jdk_67_method_80_code
abbrev cD30 := jdk_68_method_3_code
abbrev cD31 := jdk_67_method_3_code
abbrev cD32 := jdk_52_method_6_code
abbrev cD33 := jdk_52_method_91_code
abbrev cD34 := jdk_52_method_71_code
abbrev cD35 := jdk_89_method_89_code
abbrev cD36 := jdk_89_method_88_code
abbrev cD37 := jdk_43_method_3_code
abbrev cD38 := jdk_68_method_14_code
abbrev cD39 := jdk_67_method_88_code
abbrev cD40 := jdk_68_method_20_code
abbrev cD41 := jdk_67_method_82_code
abbrev cD42 := jdk_41_method_13_code
abbrev cD43 := jdk_42_method_157_code
abbrev cD44 := jdk_52_method_94_code
abbrev cD45 := jdk_52_method_22_code
abbrev cD46 := jdk_52_method_17_code
abbrev cD47 := jdk_42_method_150_code
abbrev cD48 := jdk_42_method_53_code
abbrev cD49 := jdk_67_method_42_code
abbrev cD50 := prog_48_method_2_code
abbrev cD51 := method_4_code
abbrev cD52 := jdk_43_method_2_code
abbrev cD53 := jdk_42_method_56_code
abbrev cD54 := method_5_code
abbrev cD55 := jdk_52_method_83_code
abbrev cD56 := method_3_code
abbrev HW (a0 : Array Value) (Z : State) : Prop := ∀ d ∈ tables_1, d.before a0 Z = true
abbrev DK (c : ByteArray) (p : Nat) (i : Instr) (n : Nat) : Prop := decode c p = .ok (i, n)
abbrev MF (l : Launch) (y : MethodName) (c : ByteArray) (k : Nat) (r : Option FieldType) (ws : List Jvm.Cond) (R : Room) (Z : State) (A : Array Value) (h0 : Heap) (Q : Option Value → Heap → List Loc → Prop) : Prop := MetFree l y (head1 (Jvm.Cond.code y c k r :: ws) R) (fun a U => a = A ∧ Z.Warmed39 U.vm ∧ U.heap = h0) (fun _ _ _ _ _ => True) (fun _ U o U' => ∃ v L, o = .returned v ∧ Q v U'.heap L ∧ FrameEnd U o U' L R.cells R.slots)
theorem wL (n : Nat) : 2 * 0 + n ≤ n := by omega
theorem nvr {α : Type} {P : Prop} {o : Option α} {t : α} (h : o = some t) (q : o = none) : P := by rw [h] at q; cases q
abbrev SE (p : Program) (e : Env) (below : List Frame) (s : State) (m : MethodId) (A : Array Value) (n : Nat) (t : State) : Prop := Steps p.tables e below (s.setTop (entryFrame m A n)) t
abbrev oN (n : Nat) : Int32 := Int32.ofNat n
set_option maxRecDepth 65536
set_option maxHeartbeats 40000000
theorem d49_0 : DK cD0 0 (.getstatic 44) 3 := by decide +kernel
theorem d49_3 : DK cD0 3 (.ifCond .ne 25) 3 := by decide +kernel
theorem d49_28 : DK cD0 28 (.iload_n 1) 1 := by decide +kernel
theorem d49_29 : DK cD0 29 (.iconst 1) 1 := by decide +kernel
theorem d49_30 : DK cD0 30 (.ishl) 1 := by decide +kernel
theorem d49_31 : DK cD0 31 (.istore_n 1) 1 := by decide +kernel
theorem d49_32 : DK cD0 32 (.aload_n 0) 1 := by decide +kernel
theorem d49_33 : DK cD0 33 (.iload_n 1) 1 := by decide +kernel
theorem d49_34 : DK cD0 34 (.iinc 1 1) 3 := by decide +kernel
theorem d49_37 : DK cD0 37 (.baload) 1 := by decide +kernel
theorem d49_38 : DK cD0 38 (.sipush 255) 3 := by decide +kernel
theorem d49_41 : DK cD0 41 (.iand) 1 := by decide +kernel
theorem d49_42 : DK cD0 42 (.getstatic 59) 3 := by decide +kernel
theorem d49_45 : DK cD0 45 (.ishl) 1 := by decide +kernel
theorem d49_46 : DK cD0 46 (.aload_n 0) 1 := by decide +kernel
theorem d49_47 : DK cD0 47 (.iload_n 1) 1 := by decide +kernel
theorem d49_48 : DK cD0 48 (.baload) 1 := by decide +kernel
theorem d49_49 : DK cD0 49 (.sipush 255) 3 := by decide +kernel
theorem d49_52 : DK cD0 52 (.iand) 1 := by decide +kernel
theorem d49_53 : DK cD0 53 (.getstatic 63) 3 := by decide +kernel
theorem d49_56 : DK cD0 56 (.ishl) 1 := by decide +kernel
theorem d49_57 : DK cD0 57 (.ior) 1 := by decide +kernel
theorem d49_58 : DK cD0 58 (.i2c) 1 := by decide +kernel
theorem d49_59 : DK cD0 59 (.ireturn) 1 := by decide +kernel
theorem pn_29 : plainName "java/lang/StringUTF16" = true := by first | (simp [plainName, overriddenIn]; done) | decide +kernel
theorem ef_rmGetChar (m : MethodId) (y0 : Addr) (y1 : Int32) : entryFrame m #[(.ref y0), (.int y1)] 2 = (mkF m 0 #[vR y0, vI y1] []) := by first | (simp [entryFrame, mkF, argsToLocals, Value.category]; done) | rfl
def Q_rmGetChar (Z : State) (a1 : Addr) (i : Nat) (k1 : ClassId) (z1 : Int32) (vs : List Value) (u w : Int32) (h0 : Heap) (n0 : Nat) (v : Option Value) (h : Heap) (L : List Loc) : Prop := v = some (.int ((((u &&& (255 : Int32)) <<< ((0 : Int32) &&& 31)) ||| ((w &&& (255 : Int32)) <<< ((8 : Int32) &&& 31))).toUInt32.toUInt16.toUInt32.toInt32)) ∧ Fr n0 L ∧ h = h0
theorem rmGetChar (l : Launch) (Z : State) (a0 : Array Value) (hw : HW a0 Z) (ws : List Jvm.Cond) (a1 : Addr) (i : Nat) (k1 : ClassId) (z1 : Int32) (vs : List Value) (u w : Int32) (h0 : Heap) (n0 : Nat) (O0 : Old Z n0 h0) (S_AD : SAD Z) (S_HI : SHI Z) (S_LO : SLO Z) (V1 : Arv Z h0 a1 k1 .byte z1 vs (.int 0)) (hi : i < 2 ^ 29) (hz0 : oN (2 * i) < z1) (hz1 : oN (2 * i + 1) < z1) (hu : vs.getD (2 * i) (.int 0) = .int u) (hw1 : vs.getD (2 * i + 1) (.int 0) = .int w) :
  MF l mN0 jdk_52_method_5_code 2 (some .char) ws (Rm 0 0 0 0) Z #[(.ref a1), (.int (oN i))] h0 (Q_rmGetChar Z a1 i k1 z1 vs u w h0 n0) := by
 refine MetFree.of_bodySF (plainFor_of_name pn_29) hisR ?_
 intro p e s m args below meth c s₁ Bd hml0 hP hK
 obtain ⟨rfl, hZ, hh⟩ := hP
 have hx := Bd.exec
 have hby := Bd.bytes
 have hml : c.maxLocals = 2 := hml0
 have hown : s.vm.findClass "java/lang/StringUTF16" = some m.cls := findClass_of_methodNamed Bd.named
 have X0 : Stand p l e (Rm 0 0 0 0) s m #[(.ref a1), (.int (oN i))] below meth c s₁ [] 0 0 := Stand.of_body Bd
 have e0 : s₁.heap = h0 := by rw [← hh, Bd.state]; rfl
 have N0 := Fr.nil n0
 have hn0 : n0 ≤ h0.size := O0.1 ▸ O0.2.1
 have pre0 : ∀ t, SS p e below s₁ m 0 #[vR a1, vI (oN i)] [] t → SE p e below s₁ m #[(.ref a1), (.int (oN i))] 2 t := fun t k => castTop (ef_rmGetChar m a1 ((oN i))) k
 obtain ⟨T101, X101, e101, st101⟩ := getS2 X0 hx hZ hown (host := "") (Or.inl (tw hw 233 rfl)) Via.refl e0 (Sta.ext O0.2 S_AD) (g := (mkF m 0 #[vR a1, vI (oN i)] [])) rfl (hb hby d49_0)
 have hr102 : ((oN i) <<< ((1 : Int32) &&& 31)) = (oN (2 * i)) := own_shl1 (by omega)
 have hr103 : ((oN (2 * i)) + (1 : Int32)) = (oN (2 * i + 1)) := own_succ _
 obtain ⟨cl104, Ar104, q104, S104, Nn104, H104, G104⟩ := id V1
 have hat104 : cl104.slots[((oN (2 * i))).toNatClampNeg]? = some (.int u) := (Has.at H104 (inb_of S104 ⟨own_nn (by omega), hz0⟩) (by rw [own_nat (by omega)]; exact hu))
 obtain ⟨T105, X105, e105, st105⟩ := getS2 X101 hx hZ hown (host := "") (Or.inl (tw hw 234 rfl)) Via.refl e101 (Sta.ext O0.2 S_HI) (g := (mkF m 42 #[vR a1, vI (oN (2 * i + 1))] [(.int (u &&& (255 : Int32)))])) rfl (hb hby d49_42)
 obtain ⟨cl106, Ar106, q106, S106, Nn106, H106, G106⟩ := id V1
 have hat106 : cl106.slots[((oN (2 * i + 1))).toNatClampNeg]? = some (.int w) := (Has.at H106 (inb_of S106 ⟨own_nn (by omega), hz1⟩) (by rw [own_nat (by omega)]; exact hw1))
 obtain ⟨T107, X107, e107, st107⟩ := getS2 X105 hx hZ hown (host := "") (Or.inl (tw hw 235 rfl)) Via.refl e105 (Sta.ext O0.2 S_LO) (g := (mkF m 53 #[vR a1, vI (oN (2 * i + 1))] [(.int (w &&& (255 : Int32))), (.int ((u &&& (255 : Int32)) <<< ((0 : Int32) &&& 31)))])) rfl (hb hby d49_53)
 obtain ⟨fs, hr, hrun, hended, hW, hsame⟩ := X107.leave (v := some (.int (nar .char ((((u &&& (255 : Int32)) <<< ((0 : Int32) &&& 31)) ||| ((w &&& (255 : Int32)) <<< ((8 : Int32) &&& 31))).toUInt32.toUInt16.toUInt32.toInt32)))) (nvr Bd.returns)
 refine ⟨_, _, pre0 _ ?_, hrun, hended, _, _, rfl, ?_, ⟨_, rfl⟩, hW, hsame.mono (by decide) (by decide)⟩
 ·skip
  show SS p e below s₁ m 0 #[vR a1, vI (oN i)] [] _
  refine st101 _ ?_
  refine XS.ifYes X101.here hx rfl (pc0 := 3) (pc' := 28) rfl (hb hby d49_3) rfl ((if0 _ _).trans (feq (by decide : ¬ ((1 : Int32) = (0 : Int32)))).2) (by decide) (by decide) ?_
  refine XS.iloadN X101.here hx rfl (hb hby d49_28) rfl ?_
  refine XS.iconst X101.here hx rfl (hb hby d49_29) ?_
  show SS p e below T101 m 30 #[vR a1, vI (oN i)] [(.int 1), (.int (oN i))] _
  refine XS.ishl X101.here hx rfl (hb hby d49_30) rfl ?_
  show SS p e below T101 m 31 #[vR a1, vI (oN i)] [(.int ((oN i) <<< ((1 : Int32) &&& 31)))] _
  rw [hr102]
  refine XS.istoreN X101.here hx rfl (hb hby d49_31) rfl (l' := #[vR a1, vI (oN (2 * i))]) rfl ?_
  refine XS.aloadN X101.here hx rfl (hb hby d49_32) rfl rfl ?_
  refine XS.iloadN X101.here hx rfl (hb hby d49_33) rfl ?_
  refine XS.iinc X101.here hx rfl (hb hby d49_34) rfl (l' := #[vR a1, vI ((oN (2 * i)) + (1 : Int32))]) rfl ?_
  show SS p e below T101 m 37 #[vR a1, vI ((oN (2 * i)) + (1 : Int32))] [(.int (oN (2 * i))), (.ref a1)] _
  rw [hr103]
  show SS p e below T101 m 37 #[vR a1, vI (oN (2 * i + 1))] [(.int (oN (2 * i))), (.ref a1)] _
  refine X101.baloadBytes hx (j := (oN (2 * i))) (v := (.int u)) (by rw [e101]; exact Ar104.1) (State.isArrayOf_alike hZ.alike Ar104.2.1) Ar104.2.2 (inb_of S104 ⟨own_nn (by omega), hz0⟩) hat104 (g := (mkF m 37 #[vR a1, vI (oN (2 * i + 1))] [(.int (oN (2 * i))), (.ref a1)])) rfl rfl (hb hby d49_37) _ ?_
  refine XS.sipush X101.here hx rfl (hb hby d49_38) ?_
  refine XS.iand X101.here hx rfl (hb hby d49_41) rfl ?_
  show SS p e below T101 m 42 #[vR a1, vI (oN (2 * i + 1))] [(.int (u &&& (255 : Int32)))] _
  refine st105 _ ?_
  show SS p e below T105 m 45 #[vR a1, vI (oN (2 * i + 1))] [(.int 0), (.int (u &&& (255 : Int32)))] _
  refine XS.ishl X105.here hx rfl (hb hby d49_45) rfl ?_
  refine XS.aloadN X105.here hx rfl (hb hby d49_46) rfl rfl ?_
  refine XS.iloadN X105.here hx rfl (hb hby d49_47) rfl ?_
  show SS p e below T105 m 48 #[vR a1, vI (oN (2 * i + 1))] [(.int (oN (2 * i + 1))), (.ref a1), (.int ((u &&& (255 : Int32)) <<< ((0 : Int32) &&& 31)))] _
  refine X105.baloadBytes hx (j := (oN (2 * i + 1))) (v := (.int w)) (by rw [e105]; exact Ar106.1) (State.isArrayOf_alike hZ.alike Ar106.2.1) Ar106.2.2 (inb_of S106 ⟨own_nn (by omega), hz1⟩) hat106 (g := (mkF m 48 #[vR a1, vI (oN (2 * i + 1))] [(.int (oN (2 * i + 1))), (.ref a1), (.int ((u &&& (255 : Int32)) <<< ((0 : Int32) &&& 31)))])) rfl rfl (hb hby d49_48) _ ?_
  refine XS.sipush X105.here hx rfl (hb hby d49_49) ?_
  refine XS.iand X105.here hx rfl (hb hby d49_52) rfl ?_
  show SS p e below T105 m 53 #[vR a1, vI (oN (2 * i + 1))] [(.int (w &&& (255 : Int32))), (.int ((u &&& (255 : Int32)) <<< ((0 : Int32) &&& 31)))] _
  refine st107 _ ?_
  show SS p e below T107 m 56 #[vR a1, vI (oN (2 * i + 1))] [(.int 8), (.int (w &&& (255 : Int32))), (.int ((u &&& (255 : Int32)) <<< ((0 : Int32) &&& 31)))] _
  refine XS.ishl X107.here hx rfl (hb hby d49_56) rfl ?_
  refine XS.ior X107.here hx rfl (hb hby d49_57) rfl ?_
  refine XS.i2c X107.here hx rfl (hb hby d49_58) rfl ?_
  show SS p e below T107 m 59 #[vR a1, vI (oN (2 * i + 1))] [(.int ((((u &&& (255 : Int32)) <<< ((0 : Int32) &&& 31)) ||| ((w &&& (255 : Int32)) <<< ((8 : Int32) &&& 31))).toUInt32.toUInt16.toUInt32.toInt32))] _
  exact retN X107 hx (t := .char) Bd.returns (by simp) (hb hby d49_59) hr
 ·show Q_rmGetChar Z a1 i k1 z1 vs u w h0 n0 _ T107.heap _
  rw [e107]
  exact ⟨congrArg (fun z => some (Value.int z)) (own_c16 _), N0, rfl⟩
theorem d48_0 : DK cD1 0 (.getstatic 44) 3 := by decide +kernel
theorem d48_3 : DK cD1 3 (.ifCond .ne 25) 3 := by decide +kernel
theorem d48_28 : DK cD1 28 (.iload_n 1) 1 := by decide +kernel
theorem d48_29 : DK cD1 29 (.iconst 1) 1 := by decide +kernel
theorem d48_30 : DK cD1 30 (.ishl) 1 := by decide +kernel
theorem d48_31 : DK cD1 31 (.istore_n 1) 1 := by decide +kernel
theorem d48_32 : DK cD1 32 (.aload_n 0) 1 := by decide +kernel
theorem d48_33 : DK cD1 33 (.iload_n 1) 1 := by decide +kernel
theorem d48_34 : DK cD1 34 (.iinc 1 1) 3 := by decide +kernel
theorem d48_37 : DK cD1 37 (.iload_n 2) 1 := by decide +kernel
theorem d48_38 : DK cD1 38 (.getstatic 59) 3 := by decide +kernel
theorem d48_41 : DK cD1 41 (.ishr) 1 := by decide +kernel
theorem d48_42 : DK cD1 42 (.i2b) 1 := by decide +kernel
theorem d48_43 : DK cD1 43 (.bastore) 1 := by decide +kernel
theorem d48_44 : DK cD1 44 (.aload_n 0) 1 := by decide +kernel
theorem d48_45 : DK cD1 45 (.iload_n 1) 1 := by decide +kernel
theorem d48_46 : DK cD1 46 (.iload_n 2) 1 := by decide +kernel
theorem d48_47 : DK cD1 47 (.getstatic 63) 3 := by decide +kernel
theorem d48_50 : DK cD1 50 (.ishr) 1 := by decide +kernel
theorem d48_51 : DK cD1 51 (.i2b) 1 := by decide +kernel
theorem d48_52 : DK cD1 52 (.bastore) 1 := by decide +kernel
theorem d48_53 : DK cD1 53 (.return_) 1 := by decide +kernel
theorem ef_rmPutChar (m : MethodId) (y0 : Addr) (y1 : Int32) (y2 : Int32) : entryFrame m #[(.ref y0), (.int y1), (.int y2)] 3 = (mkF m 0 #[vR y0, vI y1, vI y2] []) := by first | (simp [entryFrame, mkF, argsToLocals, Value.category]; done) | rfl
def Q_rmPutChar (Z : State) (a1 : Addr) (p3 : Int32) (i : Nat) (k1 : ClassId) (z1 : Int32) (vs : List Value) (h0 : Heap) (n0 : Nat) (v : Option Value) (h : Heap) (L : List Loc) : Prop := v = none ∧ Fr n0 L ∧ Keep h0 h [a1] ∧ Arv Z h a1 k1 .byte z1 ((vs.set (2 * i) (.int (p3.toInt8.toInt32))).set (2 * i + 1) (.int ((p3 >>> ((8 : Int32) &&& 31)).toInt8.toInt32))) (.int 0)
theorem rmPutChar (l : Launch) (Z : State) (a0 : Array Value) (hw : HW a0 Z) (ws : List Jvm.Cond) (a1 : Addr) (p3 : Int32) (i : Nat) (k1 : ClassId) (z1 : Int32) (vs : List Value) (h0 : Heap) (n0 : Nat) (O0 : Old Z n0 h0) (S_AD : SAD Z) (S_HI : SHI Z) (S_LO : SLO Z) (g1 : n0 ≤ a1) (V1 : Arv Z h0 a1 k1 .byte z1 vs (.int 0)) (hi : i < 2 ^ 29) (hz0 : oN (2 * i) < z1) (hz1 : oN (2 * i + 1) < z1) (hl0 : 2 * i < vs.length) (hl1 : 2 * i + 1 < vs.length) :
  MF l mN1 jdk_52_method_4_code 3 none ws (Rm 0 0 0 0) Z #[(.ref a1), (.int (oN i)), (.int p3)] h0 (Q_rmPutChar Z a1 p3 i k1 z1 vs h0 n0) := by
 refine MetFree.of_bodySF (plainFor_of_name pn_29) hisR ?_
 intro p e s m args below meth c s₁ Bd hml0 hP hK
 obtain ⟨rfl, hZ, hh⟩ := hP
 have hx := Bd.exec
 have hby := Bd.bytes
 have hml : c.maxLocals = 3 := hml0
 have hown : s.vm.findClass "java/lang/StringUTF16" = some m.cls := findClass_of_methodNamed Bd.named
 have X0 : Stand p l e (Rm 0 0 0 0) s m #[(.ref a1), (.int (oN i)), (.int p3)] below meth c s₁ [] 0 0 := Stand.of_body Bd
 have e0 : s₁.heap = h0 := by rw [← hh, Bd.state]; rfl
 have N0 := Fr.nil n0
 have hn0 : n0 ≤ h0.size := O0.1 ▸ O0.2.1
 have pre0 : ∀ t, SS p e below s₁ m 0 #[vR a1, vI (oN i), vI p3] [] t → SE p e below s₁ m #[(.ref a1), (.int (oN i)), (.int p3)] 3 t := fun t k => castTop (ef_rmPutChar m a1 ((oN i)) p3) k
 have lt_a1 : @LT.lt Nat _ a1 h0.size := V1.lt
 obtain ⟨T101, X101, e101, st101⟩ := getS2 X0 hx hZ hown (host := "") (Or.inl (tw hw 233 rfl)) Via.refl e0 (Sta.ext O0.2 S_AD) (g := (mkF m 0 #[vR a1, vI (oN i), vI p3] [])) rfl (hb hby d48_0)
 have hr102 : ((oN i) <<< ((1 : Int32) &&& 31)) = (oN (2 * i)) := own_shl1 (by omega)
 have hr103 : ((oN (2 * i)) + (1 : Int32)) = (oN (2 * i + 1)) := own_succ _
 obtain ⟨T104, X104, e104, st104⟩ := getS2 X101 hx hZ hown (host := "") (Or.inl (tw hw 234 rfl)) Via.refl e101 (Sta.ext O0.2 S_HI) (g := (mkF m 38 #[vR a1, vI (oN (2 * i + 1)), vI p3] [(.int p3), (.int (oN (2 * i))), (.ref a1)])) rfl (hb hby d48_38)
 have hr105 : (p3 >>> ((0 : Int32) &&& 31)) = p3 := own_shr0 _
 obtain ⟨cl106, Ar106, q106, S106, Nn106, H106, G106⟩ := id V1
 obtain ⟨T107, h107, X107, e107, W107, st107⟩ := stB X104 hx hZ e104 Ar106 (j := (oN (2 * i))) (inb_of S106 ⟨own_nn (by omega), hz0⟩) (g := (mkF m 43 #[vR a1, vI (oN (2 * i + 1)), vI p3] [(.int (p3.toInt8.toInt32)), (.int (oN (2 * i))), (.ref a1)])) rfl rfl (hb hby d48_43)
 rw [show nar .byte (p3.toInt8.toInt32) = (p3.toInt8.toInt32) from own_i8 _] at W107
 have V107 : Arv Z h107 a1 k1 .byte z1 (vs.set (2 * i) (.int (p3.toInt8.toInt32))) (.int 0) := Arv.set Ar106 q106 S106 Nn106 H106 G106 (fits_nar_byte _) W107 (2 * i) (own_nat (by omega)) hl0
 have K107 := Keep.of_wr W107
 have N107 := Fr.snoc X107 N0 (by omega : @LE.le Nat _ n0 a1)
 have sz1_K107 := K107.1
 have O108 : Old Z n0 h107 := O0.keep K107 (allS (by omega) (all0))
 obtain ⟨T109, X109, e109, st109⟩ := getS2 X107 hx hZ hown (host := "") (Or.inl (tw hw 235 rfl)) Via.refl e107 (Sta.ext O108.2 S_LO) (g := (mkF m 47 #[vR a1, vI (oN (2 * i + 1)), vI p3] [(.int p3), (.int (oN (2 * i + 1))), (.ref a1)])) rfl (hb hby d48_47)
 obtain ⟨cl110, Ar110, q110, S110, Nn110, H110, G110⟩ := id V107
 obtain ⟨T111, h111, X111, e111, W111, st111⟩ := stB X109 hx hZ e109 Ar110 (j := (oN (2 * i + 1))) (inb_of S110 ⟨own_nn (by omega), hz1⟩) (g := (mkF m 52 #[vR a1, vI (oN (2 * i + 1)), vI p3] [(.int ((p3 >>> ((8 : Int32) &&& 31)).toInt8.toInt32)), (.int (oN (2 * i + 1))), (.ref a1)])) rfl rfl (hb hby d48_52)
 rw [show nar .byte ((p3 >>> ((8 : Int32) &&& 31)).toInt8.toInt32) = ((p3 >>> ((8 : Int32) &&& 31)).toInt8.toInt32) from own_i8 _] at W111
 have V111 : Arv Z h111 a1 k1 .byte z1 ((vs.set (2 * i) (.int (p3.toInt8.toInt32))).set (2 * i + 1) (.int ((p3 >>> ((8 : Int32) &&& 31)).toInt8.toInt32))) (.int 0) := Arv.set Ar110 q110 S110 Nn110 H110 G110 (fits_nar_byte _) W111 (2 * i + 1) (own_nat (by omega)) (by rw [List.length_set]; exact hl1)
 have K111 := Keep.of_wr W111
 have N111 := Fr.snoc X111 N107 (by omega : @LE.le Nat _ n0 a1)
 have sz2_K111 := K111.1
 have KC112 : Keep h0 h107 [a1] := (Keep.refl h0 [a1]).trans K107 (allS (Or.inl (List.mem_of_getElem? (i := 0) rfl)) (all0))
 have KC113 : Keep h0 h111 [a1] := KC112.trans K111 (allS (Or.inl (List.mem_of_getElem? (i := 0) rfl)) (all0))
 obtain ⟨fs, hr, hrun, hended, hW, hsame⟩ := X111.leave (v := none) (fun _ => rfl)
 refine ⟨_, _, pre0 _ ?_, hrun, hended, _, _, rfl, ?_, ⟨_, rfl⟩, hW, hsame.mono (by decide) (by decide)⟩
 ·skip
  show SS p e below s₁ m 0 #[vR a1, vI (oN i), vI p3] [] _
  refine st101 _ ?_
  refine XS.ifYes X101.here hx rfl (pc0 := 3) (pc' := 28) rfl (hb hby d48_3) rfl ((if0 _ _).trans (feq (by decide : ¬ ((1 : Int32) = (0 : Int32)))).2) (by decide) (by decide) ?_
  refine XS.iloadN X101.here hx rfl (hb hby d48_28) rfl ?_
  refine XS.iconst X101.here hx rfl (hb hby d48_29) ?_
  show SS p e below T101 m 30 #[vR a1, vI (oN i), vI p3] [(.int 1), (.int (oN i))] _
  refine XS.ishl X101.here hx rfl (hb hby d48_30) rfl ?_
  show SS p e below T101 m 31 #[vR a1, vI (oN i), vI p3] [(.int ((oN i) <<< ((1 : Int32) &&& 31)))] _
  rw [hr102]
  refine XS.istoreN X101.here hx rfl (hb hby d48_31) rfl (l' := #[vR a1, vI (oN (2 * i)), vI p3]) rfl ?_
  refine XS.aloadN X101.here hx rfl (hb hby d48_32) rfl rfl ?_
  refine XS.iloadN X101.here hx rfl (hb hby d48_33) rfl ?_
  refine XS.iinc X101.here hx rfl (hb hby d48_34) rfl (l' := #[vR a1, vI ((oN (2 * i)) + (1 : Int32)), vI p3]) rfl ?_
  show SS p e below T101 m 37 #[vR a1, vI ((oN (2 * i)) + (1 : Int32)), vI p3] [(.int (oN (2 * i))), (.ref a1)] _
  rw [hr103]
  refine XS.iloadN X101.here hx rfl (hb hby d48_37) rfl ?_
  show SS p e below T101 m 38 #[vR a1, vI (oN (2 * i + 1)), vI p3] [(.int p3), (.int (oN (2 * i))), (.ref a1)] _
  refine st104 _ ?_
  show SS p e below T104 m 41 #[vR a1, vI (oN (2 * i + 1)), vI p3] [(.int 0), (.int p3), (.int (oN (2 * i))), (.ref a1)] _
  refine XS.ishr X104.here hx rfl (hb hby d48_41) rfl ?_
  show SS p e below T104 m 42 #[vR a1, vI (oN (2 * i + 1)), vI p3] [(.int (p3 >>> ((0 : Int32) &&& 31))), (.int (oN (2 * i))), (.ref a1)] _
  rw [hr105]
  refine XS.i2b X104.here hx rfl (hb hby d48_42) rfl ?_
  show SS p e below T104 m 43 #[vR a1, vI (oN (2 * i + 1)), vI p3] [(.int (p3.toInt8.toInt32)), (.int (oN (2 * i))), (.ref a1)] _
  refine st107 _ ?_
  refine XS.aloadN X107.here hx rfl (hb hby d48_44) rfl rfl ?_
  refine XS.iloadN X107.here hx rfl (hb hby d48_45) rfl ?_
  refine XS.iloadN X107.here hx rfl (hb hby d48_46) rfl ?_
  show SS p e below T107 m 47 #[vR a1, vI (oN (2 * i + 1)), vI p3] [(.int p3), (.int (oN (2 * i + 1))), (.ref a1)] _
  refine st109 _ ?_
  show SS p e below T109 m 50 #[vR a1, vI (oN (2 * i + 1)), vI p3] [(.int 8), (.int p3), (.int (oN (2 * i + 1))), (.ref a1)] _
  refine XS.ishr X109.here hx rfl (hb hby d48_50) rfl ?_
  refine XS.i2b X109.here hx rfl (hb hby d48_51) rfl ?_
  show SS p e below T109 m 52 #[vR a1, vI (oN (2 * i + 1)), vI p3] [(.int ((p3 >>> ((8 : Int32) &&& 31)).toInt8.toInt32)), (.int (oN (2 * i + 1))), (.ref a1)] _
  refine st111 _ ?_
  show SS p e below T111 m 53 #[vR a1, vI (oN (2 * i + 1)), vI p3] [] _
  exact X111.returnOut hx Bd.returns (hb hby d48_53) hr
 ·show Q_rmPutChar Z a1 p3 i k1 z1 vs h0 n0 _ T111.heap _
  rw [e111]
  exact ⟨rfl, N111, KC113, V111⟩
theorem d47_0 : DK cD2 0 (.iload_n 0) 1 := by decide +kernel
theorem d47_1 : DK cD2 1 (.ifCond .ge 11) 3 := by decide +kernel
theorem d47_12 : DK cD2 12 (.iload_n 0) 1 := by decide +kernel
theorem d47_13 : DK cD2 13 (.ldc 20) 2 := by decide +kernel
theorem d47_15 : DK cD2 15 (.if_icmp .lt 40) 3 := by decide +kernel
theorem d47_55 : DK cD2 55 (.iload_n 0) 1 := by decide +kernel
theorem d47_56 : DK cD2 56 (.iconst 1) 1 := by decide +kernel
theorem d47_57 : DK cD2 57 (.ishl) 1 := by decide +kernel
theorem d47_58 : DK cD2 58 (.ireturn) 1 := by decide +kernel
theorem ef_rm47 (m : MethodId) (y0 : Int32) : entryFrame m #[(.int y0)] 1 = (mkF m 0 #[vI y0] []) := by first | (simp [entryFrame, mkF, argsToLocals, Value.category]; done) | rfl
def Q_rm47 (Z : State) (n : Nat) (h0 : Heap) (n0 : Nat) (v : Option Value) (h : Heap) (L : List Loc) : Prop := v = some (.int (oN (2 * n))) ∧ Fr n0 L ∧ h = h0
theorem rm47 (l : Launch) (Z : State) (a0 : Array Value) (hw : HW a0 Z) (ws : List Jvm.Cond) (n : Nat) (h0 : Heap) (n0 : Nat) (O0 : Old Z n0 h0) (hn : n < 2 ^ 29) :
  MF l mN2 jdk_52_method_3_code 1 (some .int) ws (Rm 0 0 0 0) Z #[(.int (oN n))] h0 (Q_rm47 Z n h0 n0) := by
 refine MetFree.of_bodySF (plainFor_of_name pn_29) hisR ?_
 intro p e s m args below meth c s₁ Bd hml0 hP hK
 obtain ⟨rfl, hZ, hh⟩ := hP
 have hx := Bd.exec
 have hby := Bd.bytes
 have hml : c.maxLocals = 1 := hml0
 have hown : s.vm.findClass "java/lang/StringUTF16" = some m.cls := findClass_of_methodNamed Bd.named
 have X0 : Stand p l e (Rm 0 0 0 0) s m #[(.int (oN n))] below meth c s₁ [] 0 0 := Stand.of_body Bd
 have e0 : s₁.heap = h0 := by rw [← hh, Bd.state]; rfl
 have N0 := Fr.nil n0
 have hn0 : n0 ≤ h0.size := O0.1 ▸ O0.2.1
 have pre0 : ∀ t, SS p e below s₁ m 0 #[vI (oN n)] [] t → SE p e below s₁ m #[(.int (oN n))] 1 t := fun t k => castTop (ef_rm47 m ((oN n))) k
 obtain ⟨fs, hr, hrun, hended, hW, hsame⟩ := X0.leave (v := some (.int ((oN n) <<< ((1 : Int32) &&& 31)))) (nvr Bd.returns)
 refine ⟨_, _, pre0 _ ?_, hrun, hended, _, _, rfl, ?_, ⟨_, rfl⟩, hW, hsame.mono (by decide) (by decide)⟩
 ·skip
  show SS p e below s₁ m 0 #[vI (oN n)] [] _
  refine XS.iloadN X0.here hx rfl (hb hby d47_0) rfl ?_
  refine XS.ifYes X0.here hx rfl (pc0 := 1) (pc' := 12) rfl (hb hby d47_1) rfl ((if0 _ _).trans (flt (own_nn (by omega) : ¬ ((oN n) < (0 : Int32)))).2.1) (by decide) (by decide) ?_
  refine XS.iloadN X0.here hx rfl (hb hby d47_12) rfl ?_
  show SS p e below s₁ m 13 #[vI (oN n)] [(.int (oN n))] _
  refine X0.ldcInt hx hown (mvT hZ (tw hw 229 rfl)) (g := (mkF m 13 #[vI (oN n)] [(.int (oN n))])) rfl (hb hby d47_13) _ ?_
  refine XS.icmpYes X0.here hx rfl (pc0 := 15) (pc' := 55) rfl (hb hby d47_15) rfl (tlt (((own_lt (j := 1073741823) (by omega) (by decide)).mpr (by omega)) : (oN n) < (1073741823 : Int32))).1 (by decide) (by decide) ?_
  refine XS.iloadN X0.here hx rfl (hb hby d47_55) rfl ?_
  refine XS.iconst X0.here hx rfl (hb hby d47_56) ?_
  show SS p e below s₁ m 57 #[vI (oN n)] [(.int 1), (.int (oN n))] _
  refine XS.ishl X0.here hx rfl (hb hby d47_57) rfl ?_
  show SS p e below s₁ m 58 #[vI (oN n)] [(.int ((oN n) <<< ((1 : Int32) &&& 31)))] _
  exact retI X0 hx Bd.returns (hb hby d47_58) hr
 ·show Q_rm47 Z n h0 n0 _ s₁.heap _
  rw [e0]
  exact ⟨congrArg (fun z => some (Value.int z)) (own_shl1 (by omega)), N0, rfl⟩
theorem d46_0 : DK cD3 0 (.iload_n 0) 1 := by decide +kernel
theorem d46_1 : DK cD3 1 (.invokestatic 11) 3 := by decide +kernel
theorem d46_4 : DK cD3 4 (.newarray .byte) 2 := by decide +kernel
theorem d46_6 : DK cD3 6 (.areturn) 1 := by decide +kernel
theorem pd_34 : parseMethodDescriptor "(I)I" = some ⟨[.int], some .int⟩ := by decide +kernel
theorem ef_rm46 (m : MethodId) (y0 : Int32) : entryFrame m #[(.int y0)] 1 = (mkF m 0 #[vI y0] []) := by first | (simp [entryFrame, mkF, argsToLocals, Value.category]; done) | rfl
def Q_rm46 (Z : State) (n : Nat) (h0 : Heap) (n0 : Nat) (v : Option Value) (h : Heap) (L : List Loc) : Prop := ∃ (t : Addr) (kb : ClassId), v = some (.ref t) ∧ Fr n0 L ∧ Keep h0 h [] ∧ h0.size ≤ t ∧ Arv Z h t kb .byte (oN (2 * n)) (List.replicate (2 * n) (.int 0)) (.int 0)
theorem rm46 (l : Launch) (Z : State) (a0 : Array Value) (hw : HW a0 Z) (ws : List Jvm.Cond) (n : Nat) (h0 : Heap) (n0 : Nat) (O0 : Old Z n0 h0) (hn : n ≤ 20) :
  MF l mN3 jdk_52_method_2_code 1 (some (.array .byte)) ws (Rm 1 1 40 20) Z #[(.int (oN n))] h0 (Q_rm46 Z n h0 n0) := by
 refine MetFree.of_bodySF (plainFor_of_name pn_29) hisR ?_
 intro p e s m args below meth c s₁ Bd hml0 hP hK
 obtain ⟨rfl, hZ, hh⟩ := hP
 have hx := Bd.exec
 have hby := Bd.bytes
 have hml : c.maxLocals = 1 := hml0
 have hown : s.vm.findClass "java/lang/StringUTF16" = some m.cls := findClass_of_methodNamed Bd.named
 have X0 : Stand p l e (Rm 1 1 40 20) s m #[(.int (oN n))] below meth c s₁ [] 0 0 := Stand.of_body Bd
 have e0 : s₁.heap = h0 := by rw [← hh, Bd.state]; rfl
 have N0 := Fr.nil n0
 have hn0 : n0 ≤ h0.size := O0.1 ▸ O0.2.1
 have pre0 : ∀ t, SS p e below s₁ m 0 #[vI (oN n)] [] t → SE p e below s₁ m #[(.int (oN n))] 1 t := fun t k => castTop (ef_rm46 m ((oN n))) k
 obtain ⟨_, _, ⟨T101, L101, k101, n101⟩, -, X101, ⟨Lc101, hQ101, l101, y101, z101⟩, st101⟩ := Jvm.LawKit.callS X0 hx (y := mN2) hown (mvT hZ (tw hw 226 rfl)) (mvT hZ (tw hw 227 rfl)) (mvT hZ (tw hw 156 rfl)) (mvT hZ (tw hw 228 rfl)) (by decide) (backOf (W := 0) (rm47 l Z a0 hw []  n h0 n0 O0 (by omega)) hZ (tw hw 228 rfl) (tw hw 156 rfl) (by decide) (by decide)) (g := (mkF m 1 #[vI (oN n)] [(.int (oN n))])) rfl (by rw [hml]; rfl) (argsL := [(.int (oN n))]) (rest := []) (lenOf pd_34 rfl) rfl (wL _) (hb hby d46_1) (fun _ _ => ⟨rfl, e0, (by decide : 0 + 0 ≤ _), (by decide : 0 + 0 ≤ _)⟩)
 dsimp only [Pt.U, Pt.locs, Pt.cells, Pt.slots] at X101 l101 y101 z101 st101 hQ101
 subst l101 y101 z101
 obtain ⟨rfl, N101q, H101⟩ := hQ101
 have N101 := Fr.app N0 N101q
 obtain ⟨T102, h102, k102, X102, e102, E102, A102, st102⟩ := newP X101 hx hZ (tw hw 20 rfl) H101 (g := (mkF m 4 #[vI (oN n)] [(.int (oN (2 * n)))])) rfl (hb hby d46_4) rfl (own_nn (by omega)) (cap := 40) (by rw [own_nat (by omega)]; omega) (by decide) (by decide) (by decide)
 obtain ⟨b102, g102⟩ : ∃ z, z = h0.size := ⟨_, rfl⟩
 rw [← g102] at A102 st102
 have V102 : Arv Z h102 b102 k102 .byte (oN (2 * n)) (List.replicate (2 * n) (.int 0)) (.int 0) := (Arv.new A102 (own_nn (by omega))).pad (pad_rep [] (.int 0) (2 * n))
 have lt102 : @LT.lt Nat _ b102 h102.size := V102.lt
 have K102 : Keep h0 h102 [] := (Keep.refl _ _).ext E102
 have sz1_K102 := K102.1
 have KC103 : Keep h0 h102 [] := (Keep.refl h0 []).trans K102 (all0)
 obtain ⟨fs, hr, hrun, hended, hW, hsame⟩ := X102.leave (v := some (.ref b102)) (nvr Bd.returns)
 refine ⟨_, _, pre0 _ ?_, hrun, hended, _, _, rfl, ?_, ⟨_, rfl⟩, hW, hsame.mono (by decide) (by decide)⟩
 ·skip
  show SS p e below s₁ m 0 #[vI (oN n)] [] _
  refine XS.iloadN X0.here hx rfl (hb hby d46_0) rfl ?_
  show SS p e below s₁ m 1 #[vI (oN n)] [(.int (oN n))] _
  refine st101 _ ?_
  show SS p e below T101 m 4 #[vI (oN n)] [(.int (oN (2 * n)))] _
  refine st102 _ ?_
  show SS p e below T102 m 6 #[vI (oN n)] [(.ref b102)] _
  exact X102.areturnOut hx rfl Bd.returns rfl (hb hby d46_6) hr
 ·show Q_rm46 Z n h0 n0 _ T102.heap _
  rw [e102]
  exact ⟨_, _, rfl, N101, KC103, (by omega), V102⟩
theorem d30_3 : DK cD4 3 (.iload 5) 2 := by decide +kernel
theorem d30_5 : DK cD4 5 (.iload 4) 2 := by decide +kernel
theorem d30_7 : DK cD4 7 (.if_icmp .ge 37) 3 := by decide +kernel
theorem d30_10 : DK cD4 10 (.aload_n 0) 1 := by decide +kernel
theorem d30_11 : DK cD4 11 (.iload_n 1) 1 := by decide +kernel
theorem d30_12 : DK cD4 12 (.caload) 1 := by decide +kernel
theorem d30_13 : DK cD4 13 (.istore 6) 2 := by decide +kernel
theorem d30_15 : DK cD4 15 (.iload 6) 2 := by decide +kernel
theorem d30_17 : DK cD4 17 (.sipush 255) 3 := by decide +kernel
theorem d30_20 : DK cD4 20 (.if_icmp .le 6) 3 := by decide +kernel
theorem d30_26 : DK cD4 26 (.aload_n 2) 1 := by decide +kernel
theorem d30_27 : DK cD4 27 (.iload_n 3) 1 := by decide +kernel
theorem d30_28 : DK cD4 28 (.iload 6) 2 := by decide +kernel
theorem d30_30 : DK cD4 30 (.i2b) 1 := by decide +kernel
theorem d30_31 : DK cD4 31 (.bastore) 1 := by decide +kernel
theorem d30_32 : DK cD4 32 (.iinc 1 1) 3 := by decide +kernel
theorem d30_35 : DK cD4 35 (.iinc 3 1) 3 := by decide +kernel
theorem d30_38 : DK cD4 38 (.iinc 5 1) 3 := by decide +kernel
theorem d30_41 : DK cD4 41 (.goto (-38)) 3 := by decide +kernel
theorem os_tnCmp5_1 {z0 : Value} {z1 : Value} {z2 : Value} {z3 : Value} {z4 : Value} {z5 : Value} {s6 : Slot} {v : Int32} (h : One s6) : storeLocals #[.val z0, .val z1, .val z2, .val z3, .val z4, .val z5, s6] 6 (.int v) = some #[.val z0, .val z1, .val z2, .val z3, .val z4, .val z5, vI v] := by
 rcases h with rfl | ⟨w, rfl, hw⟩
 ·rfl
 ·cases w <;> first | rfl | (simp [Value.category] at hw)
theorem tnCmp5 {p : Program} {l : Launch} {e : Env} {s : State} {m : MethodId} {args : Array Value} {below : List Frame} {meth : Method} {c : Code} {T0 : State} {locs : List Loc} {Z : State} {a0 : Array Value} {h0 : Heap} {n0 : Nat} (a1 : Addr) (a3 : Addr) (cs : List Int32) (kC k3 : ClassId) (dC : Value) (j : Nat) (s6 : Slot)
  (X0 : Stand p l e (Rm 0 0 0 0) s m args below meth c T0 locs 0 0) (hx : p.tables.exec = Jvm.exec) (hZ : Z.Warmed39 s.vm) (hw : HW a0 Z) (hby : c.code = jdk_52_method_21_code) (hml : c.maxLocals = 7) (hown : s.vm.findClass "java/lang/StringUTF16" = some m.cls) (e0 : T0.heap = h0) (O0 : Old Z n0 h0) (N0 : Fr n0 locs) (V1 : Arv Z h0 a1 kC .char (oN cs.length) (cs.map Value.int) dC) (g3 : n0 ≤ a3) (ne13 : @Ne Nat a1 a3) (hn : cs.length ≤ 4) (V3 : Arv Z h0 a3 k3 .byte (oN cs.length) (latL cs j) (.int 0)) (hj : j < cs.length) (hc : ¬ ((255 : Int32) < (cs.getD j 0))) (hs6 : One s6) :
  ∃ (T' : State) (h' : Heap) (L' : List Loc), Stand p l e (Rm 0 0 0 0) s m args below meth c T' L' 0 0 ∧ T'.heap = h' ∧ Fr n0 L' ∧ Keep h0 h' [a3] ∧ Arv Z h' a3 k3 .byte (oN cs.length) (latL cs (j + 1)) (.int 0) ∧ ∀ target, SS p e below T' m 3 #[vR a1, vI (oN (j + 1)), vR a3, vI (oN (j + 1)), vI (oN cs.length), vI (oN (j + 1)), vI (cs.getD j 0)] [] target → SS p e below T0 m 3 #[vR a1, vI (oN j), vR a3, vI (oN j), vI (oN cs.length), vI (oN j), s6] [] target := by
 have hn0 : n0 ≤ h0.size := O0.1 ▸ O0.2.1
 have pre0 : ∀ t, SS p e below T0 m 3 #[vR a1, vI (oN j), vR a3, vI (oN j), vI (oN cs.length), vI (oN j), s6] [] t → SS p e below T0 m 3 #[vR a1, vI (oN j), vR a3, vI (oN j), vI (oN cs.length), vI (oN j), s6] [] t := fun t k => k
 have hj31 : j < 2 ^ 31 := by omega
 have hn31 : cs.length < 2 ^ 31 := by omega
 have lt_a1 : @LT.lt Nat _ a1 h0.size := V1.lt
 have lt_a3 : @LT.lt Nat _ a3 h0.size := V3.lt
 obtain ⟨cl101, Ar101, q101, S101, Nn101, H101, G101⟩ := id V1
 have hat101 : cl101.slots[((oN j)).toNatClampNeg]? = some (.int (cs.getD j 0)) := (Has.at H101 (inb_of S101 ⟨own_nn hj31, (own_lt hj31 hn31).mpr hj⟩) (own_getD _ hj hj31))
 obtain ⟨cl102, Ar102, q102, S102, Nn102, H102, G102⟩ := id V3
 obtain ⟨T103, h103, X103, e103, W103, st103⟩ := stB X0 hx hZ e0 Ar102 (j := (oN j)) (inb_of S102 ⟨own_nn hj31, (own_lt hj31 hn31).mpr hj⟩) (g := (mkF m 31 #[vR a1, vI (oN j), vR a3, vI (oN j), vI (oN cs.length), vI (oN j), vI (cs.getD j 0)] [(.int ((cs.getD j 0).toInt8.toInt32)), (.int (oN j)), (.ref a3)])) rfl rfl (hb hby d30_31)
 rw [show nar .byte ((cs.getD j 0).toInt8.toInt32) = ((cs.getD j 0).toInt8.toInt32) from own_i8 _] at W103
 have V103 : Arv Z h103 a3 k3 .byte (oN cs.length) ((latL cs j).set j (.int ((cs.getD j 0).toInt8.toInt32))) (.int 0) := Arv.set Ar102 q102 S102 Nn102 H102 G102 (fits_nar_byte _) W103 j (own_nat hj31) (by rw [latL_len cs (Nat.le_of_lt hj)]; exact hj)
 have K103 := Keep.of_wr W103
 have N103 := Fr.snoc X103 N0 (by omega : @LE.le Nat _ n0 a3)
 rw [latL_set cs hj] at V103
 have sz1_K103 := K103.1
 have KC104 : Keep h0 h103 [a3] := (Keep.refl h0 [a3]).trans K103 (allS (Or.inl (List.mem_of_getElem? (i := 0) rfl)) (all0))
 refine ⟨T103, h103, _, X103, e103, N103, KC104, V103, fun target kt => pre0 _ ?_⟩
 show SS p e below T0 m 3 #[vR a1, vI (oN j), vR a3, vI (oN j), vI (oN cs.length), vI (oN j), s6] [] _
 refine XS.iload X0.here hx rfl (hb hby d30_3) rfl ?_
 refine XS.iload X0.here hx rfl (hb hby d30_5) rfl ?_
 refine XS.icmpNo X0.here hx rfl (hb hby d30_7) rfl (tlt ((own_lt hj31 hn31).mpr hj : (oN j) < (oN cs.length))).2.1 ?_
 refine XS.aloadN X0.here hx rfl (hb hby d30_10) rfl rfl ?_
 refine XS.iloadN X0.here hx rfl (hb hby d30_11) rfl ?_
 show SS p e below T0 m 12 #[vR a1, vI (oN j), vR a3, vI (oN j), vI (oN cs.length), vI (oN j), s6] [(.int (oN j)), (.ref a1)] _
 refine X0.caload hx (j := (oN j)) (v := (.int (cs.getD j 0))) (by rw [e0]; exact Ar101.1) (State.isArrayOf_alike hZ.alike Ar101.2.1) Ar101.2.2 (inb_of S101 ⟨own_nn hj31, (own_lt hj31 hn31).mpr hj⟩) hat101 (g := (mkF m 12 #[vR a1, vI (oN j), vR a3, vI (oN j), vI (oN cs.length), vI (oN j), s6] [(.int (oN j)), (.ref a1)])) rfl rfl (hb hby d30_12) _ ?_
 refine XS.istore X0.here hx rfl (hb hby d30_13) rfl (l' := #[vR a1, vI (oN j), vR a3, vI (oN j), vI (oN cs.length), vI (oN j), vI (cs.getD j 0)]) (os_tnCmp5_1 hs6) ?_
 refine XS.iload X0.here hx rfl (hb hby d30_15) rfl ?_
 refine XS.sipush X0.here hx rfl (hb hby d30_17) ?_
 refine XS.icmpYes X0.here hx rfl (pc0 := 20) (pc' := 26) rfl (hb hby d30_20) rfl (flt (hc : ¬ ((255 : Int32) < (cs.getD j 0)))).2.2.2 (by decide) (by decide) ?_
 refine XS.aloadN X0.here hx rfl (hb hby d30_26) rfl rfl ?_
 refine XS.iloadN X0.here hx rfl (hb hby d30_27) rfl ?_
 refine XS.iload X0.here hx rfl (hb hby d30_28) rfl ?_
 refine XS.i2b X0.here hx rfl (hb hby d30_30) rfl ?_
 show SS p e below T0 m 31 #[vR a1, vI (oN j), vR a3, vI (oN j), vI (oN cs.length), vI (oN j), vI (cs.getD j 0)] [(.int ((cs.getD j 0).toInt8.toInt32)), (.int (oN j)), (.ref a3)] _
 refine st103 _ ?_
 refine XS.iinc X103.here hx rfl (hb hby d30_32) rfl (l' := #[vR a1, vI ((oN j) + (1 : Int32)), vR a3, vI (oN j), vI (oN cs.length), vI (oN j), vI (cs.getD j 0)]) rfl ?_
 refine XS.iinc X103.here hx rfl (hb hby d30_35) rfl (l' := #[vR a1, vI ((oN j) + (1 : Int32)), vR a3, vI ((oN j) + (1 : Int32)), vI (oN cs.length), vI (oN j), vI (cs.getD j 0)]) rfl ?_
 refine XS.iinc X103.here hx rfl (hb hby d30_38) rfl (l' := #[vR a1, vI ((oN j) + (1 : Int32)), vR a3, vI ((oN j) + (1 : Int32)), vI (oN cs.length), vI ((oN j) + (1 : Int32)), vI (cs.getD j 0)]) rfl ?_
 refine XS.goto X103.here hx rfl (pc0 := 41) (pc' := 3) rfl (hb hby d30_41) (by decide) (by decide) ?_
 show SS p e below T103 m 3 #[vR a1, vI ((oN j) + (1 : Int32)), vR a3, vI ((oN j) + (1 : Int32)), vI (oN cs.length), vI ((oN j) + (1 : Int32)), vI (cs.getD j 0)] [] _
 rw [own_succ j]
 exact kt
theorem lpCmp5 {p : Program} {l : Launch} {e : Env} {s : State} {m : MethodId} {args : Array Value} {below : List Frame} {meth : Method} {c : Code} {T0 : State} {locs : List Loc} {Z : State} {a0 : Array Value} {h0 : Heap} {n0 : Nat} (a1 : Addr) (a3 : Addr) (cs : List Int32) (kC k3 : ClassId) (dC : Value) (M : Nat)
  (X0 : Stand p l e (Rm 0 0 0 0) s m args below meth c T0 locs 0 0) (hx : p.tables.exec = Jvm.exec) (hZ : Z.Warmed39 s.vm) (hw : HW a0 Z) (hby : c.code = jdk_52_method_21_code) (hml : c.maxLocals = 7) (hown : s.vm.findClass "java/lang/StringUTF16" = some m.cls) (e0 : T0.heap = h0) (O0 : Old Z n0 h0) (N0 : Fr n0 locs) (V1 : Arv Z h0 a1 kC .char (oN cs.length) (cs.map Value.int) dC) (g3 : n0 ≤ a3) (ne13 : @Ne Nat a1 a3) (hn : cs.length ≤ 4)
  (V3 : Arv Z h0 a3 k3 .byte (oN cs.length) (latL cs 0) (.int 0)) (hM : M ≤ cs.length) (hpre : ∀ j, j < M → ¬ ((255 : Int32) < cs.getD j 0)) :
  ∀ j, j ≤ M → ∃ (T' : State) (h' : Heap) (L' : List Loc) (s6 : Slot), Stand p l e (Rm 0 0 0 0) s m args below meth c T' L' 0 0 ∧ T'.heap = h' ∧ Fr n0 L' ∧ One s6 ∧ Keep h0 h' [a3] ∧ Arv Z h' a3 k3 .byte (oN cs.length) (latL cs j) (.int 0) ∧ ∀ target, SS p e below T' m 3 #[vR a1, vI (oN j), vR a3, vI (oN j), vI (oN cs.length), vI (oN j), s6] [] target → SS p e below T0 m 3 #[vR a1, vI (oN 0), vR a3, vI (oN 0), vI (oN cs.length), vI (oN 0), .unset] [] target := by
 intro j
 induction j with
 | zero => exact fun _ => ⟨T0, h0, locs, .unset, X0, e0, N0, One.u, Keep.refl _ _, V3, fun _ k => k⟩
 | succ j ih =>
  intro hj
  obtain ⟨T, h, L, s6, X, e1, N, hs6, K, V, st⟩ := ih (by omega)
  obtain ⟨T2, h2, L2, X2, e2, N2, K2, V2, st2⟩ := tnCmp5 a1 a3 cs kC k3 dC j s6 X hx hZ hw hby hml hown e1 (O0.keep K (allS g3 all0)) N (V1.keep K (ninS ne13 nin0)) g3 ne13 hn V (by omega) (hpre j (by omega)) hs6
  exact ⟨T2, h2, L2, _, X2, e2, N2, One.val rfl, K.trans K2 (allS (Or.inl (List.mem_of_getElem? (i := 0) rfl)) all0), V2, fun t k => st _ (st2 _ k)⟩
theorem d30_0 : DK cD4 0 (.iconst 0) 1 := by decide +kernel
theorem d30_1 : DK cD4 1 (.istore 5) 2 := by decide +kernel
theorem d30_23 : DK cD4 23 (.iload 5) 2 := by decide +kernel
theorem d30_25 : DK cD4 25 (.ireturn) 1 := by decide +kernel
theorem os_rmCmp5_1 {z0 : Value} {z1 : Value} {z2 : Value} {z3 : Value} {z4 : Value} {z5 : Value} {s6 : Slot} {v : Int32} (h : One s6) : storeLocals #[.val z0, .val z1, .val z2, .val z3, .val z4, .val z5, s6] 6 (.int v) = some #[.val z0, .val z1, .val z2, .val z3, .val z4, .val z5, vI v] := by
 rcases h with rfl | ⟨w, rfl, hw⟩
 ·rfl
 ·cases w <;> first | rfl | (simp [Value.category] at hw)
theorem ef_rmCmp5 (m : MethodId) (y0 : Addr) (y1 : Addr) (y2 : Int32) : entryFrame m #[(.ref y0), (.int 0), (.ref y1), (.int 0), (.int y2)] 7 = (mkF m 0 #[vR y0, vI 0, vR y1, vI 0, vI y2, .unset, .unset] []) := by first | (simp [entryFrame, mkF, argsToLocals, Value.category]; done) | rfl
def Q_rmCmp5 (Z : State) (a1 : Addr) (a3 : Addr) (cs : List Int32) (kC k3 : ClassId) (dC : Value) (m1 : Nat) (h0 : Heap) (n0 : Nat) (v : Option Value) (h : Heap) (L : List Loc) : Prop := v = some (.int (oN m1)) ∧ Fr n0 L ∧ Keep h0 h [a3]
theorem rmCmp5 (l : Launch) (Z : State) (a0 : Array Value) (hw : HW a0 Z) (ws : List Jvm.Cond) (a1 : Addr) (a3 : Addr) (cs : List Int32) (kC k3 : ClassId) (dC : Value) (m1 : Nat) (h0 : Heap) (n0 : Nat) (O0 : Old Z n0 h0) (V1 : Arv Z h0 a1 kC .char (oN cs.length) (cs.map Value.int) dC) (g3 : n0 ≤ a3) (ne13 : @Ne Nat a1 a3) (hn : cs.length ≤ 4) (V3 : Arv Z h0 a3 k3 .byte (oN cs.length) (latL cs 0) (.int 0)) (hj : m1 < cs.length) (hpre : ∀ j, j < m1 → ¬ ((255 : Int32) < cs.getD j 0)) (hend : (255 : Int32) < (cs.getD m1 0)) :
  MF l mN4 jdk_52_method_21_code 7 (some .int) ws (Rm 0 0 0 0) Z #[(.ref a1), (.int 0), (.ref a3), (.int 0), (.int (oN cs.length))] h0 (Q_rmCmp5 Z a1 a3 cs kC k3 dC m1 h0 n0) := by
 refine MetFree.of_bodySF (plainFor_of_name pn_29) hisR ?_
 intro p e s m args below meth c s₁ Bd hml0 hP hK
 obtain ⟨rfl, hZ, hh⟩ := hP
 have hx := Bd.exec
 have hby := Bd.bytes
 have hml : c.maxLocals = 7 := hml0
 have hown : s.vm.findClass "java/lang/StringUTF16" = some m.cls := findClass_of_methodNamed Bd.named
 have X0 : Stand p l e (Rm 0 0 0 0) s m #[(.ref a1), (.int 0), (.ref a3), (.int 0), (.int (oN cs.length))] below meth c s₁ [] 0 0 := Stand.of_body Bd
 have e0 : s₁.heap = h0 := by rw [← hh, Bd.state]; rfl
 have N0 := Fr.nil n0
 have hn0 : n0 ≤ h0.size := O0.1 ▸ O0.2.1
 have pre0 : ∀ t, SS p e below s₁ m 0 #[vR a1, vI 0, vR a3, vI 0, vI (oN cs.length), .unset, .unset] [] t → SE p e below s₁ m #[(.ref a1), (.int 0), (.ref a3), (.int 0), (.int (oN cs.length))] 7 t := fun t k => castTop (ef_rmCmp5 m a1 a3 ((oN cs.length))) k
 have hj31 : m1 < 2 ^ 31 := by omega
 have hn31 : cs.length < 2 ^ 31 := by omega
 have lt_a1 : @LT.lt Nat _ a1 h0.size := V1.lt
 have lt_a3 : @LT.lt Nat _ a3 h0.size := V3.lt
 have pre101 : ∀ t, SS p e below s₁ m 3 #[vR a1, vI 0, vR a3, vI 0, vI (oN cs.length), vI 0, .unset] [] t → SE p e below s₁ m #[(.ref a1), (.int 0), (.ref a3), (.int 0), (.int (oN cs.length))] 7 t := by
  intro t kt
  refine pre0 _ ?_
  show SS p e below s₁ m 0 #[vR a1, vI 0, vR a3, vI 0, vI (oN cs.length), .unset, .unset] [] _
  refine XS.iconst X0.here hx rfl (hb hby d30_0) ?_
  refine XS.istore X0.here hx rfl (hb hby d30_1) rfl (l' := #[vR a1, vI 0, vR a3, vI 0, vI (oN cs.length), vI 0, .unset]) rfl ?_
  exact kt
 obtain ⟨T102, h102, L102, s6, X102, e102, N102, hs6, K102, V102, st102⟩ := lpCmp5 a1 a3 cs kC k3 dC m1 X0 hx hZ hw hby hml hown e0 O0 N0 V1 g3 ne13 hn V3 (Nat.le_of_lt hj) hpre m1 (Nat.le_refl _)
 have sz1_K102 := K102.1
 have C103 := V1.keep K102 (ninS (by omega : @Ne Nat a1 a3) (nin0))
 obtain ⟨cl104, Ar104, q104, S104, Nn104, H104, G104⟩ := id C103
 have hat104 : cl104.slots[((oN m1)).toNatClampNeg]? = some (.int (cs.getD m1 0)) := (Has.at H104 (inb_of S104 ⟨own_nn hj31, (own_lt hj31 hn31).mpr hj⟩) (own_getD _ hj hj31))
 have KC105 : Keep h0 h102 [a3] := (Keep.refl h0 [a3]).trans K102 (allS (Or.inl (List.mem_of_getElem? (i := 0) rfl)) (all0))
 obtain ⟨fs, hr, hrun, hended, hW, hsame⟩ := X102.leave (v := some (.int (oN m1))) (nvr Bd.returns)
 refine ⟨_, _, pre101 _ ?_, hrun, hended, _, _, rfl, ?_, ⟨_, rfl⟩, hW, hsame.mono (by decide) (by decide)⟩
 ·skip
  refine st102 _ ?_
  show SS p e below T102 m 3 #[vR a1, vI (oN m1), vR a3, vI (oN m1), vI (oN cs.length), vI (oN m1), s6] [] _
  refine XS.iload X102.here hx rfl (hb hby d30_3) rfl ?_
  refine XS.iload X102.here hx rfl (hb hby d30_5) rfl ?_
  refine XS.icmpNo X102.here hx rfl (hb hby d30_7) rfl (tlt ((own_lt hj31 hn31).mpr hj : (oN m1) < (oN cs.length))).2.1 ?_
  refine XS.aloadN X102.here hx rfl (hb hby d30_10) rfl rfl ?_
  refine XS.iloadN X102.here hx rfl (hb hby d30_11) rfl ?_
  show SS p e below T102 m 12 #[vR a1, vI (oN m1), vR a3, vI (oN m1), vI (oN cs.length), vI (oN m1), s6] [(.int (oN m1)), (.ref a1)] _
  refine X102.caload hx (j := (oN m1)) (v := (.int (cs.getD m1 0))) (by rw [e102]; exact Ar104.1) (State.isArrayOf_alike hZ.alike Ar104.2.1) Ar104.2.2 (inb_of S104 ⟨own_nn hj31, (own_lt hj31 hn31).mpr hj⟩) hat104 (g := (mkF m 12 #[vR a1, vI (oN m1), vR a3, vI (oN m1), vI (oN cs.length), vI (oN m1), s6] [(.int (oN m1)), (.ref a1)])) rfl rfl (hb hby d30_12) _ ?_
  refine XS.istore X102.here hx rfl (hb hby d30_13) rfl (l' := #[vR a1, vI (oN m1), vR a3, vI (oN m1), vI (oN cs.length), vI (oN m1), vI (cs.getD m1 0)]) (os_rmCmp5_1 hs6) ?_
  refine XS.iload X102.here hx rfl (hb hby d30_15) rfl ?_
  refine XS.sipush X102.here hx rfl (hb hby d30_17) ?_
  refine XS.icmpNo X102.here hx rfl (hb hby d30_20) rfl (tlt (hend : (255 : Int32) < (cs.getD m1 0))).2.2.2 ?_
  refine XS.iload X102.here hx rfl (hb hby d30_23) rfl ?_
  show SS p e below T102 m 25 #[vR a1, vI (oN m1), vR a3, vI (oN m1), vI (oN cs.length), vI (oN m1), vI (cs.getD m1 0)] [(.int (oN m1))] _
  exact retI X102 hx Bd.returns (hb hby d30_25) hr
 ·show Q_rmCmp5 Z a1 a3 cs kC k3 dC m1 h0 n0 _ T102.heap _
  rw [e102]
  exact ⟨rfl, N102, KC105⟩
theorem d45_8 : DK cD5 8 (.iload 4) 2 := by decide +kernel
theorem d45_10 : DK cD5 10 (.iload_n 2) 1 := by decide +kernel
theorem d45_11 : DK cD5 11 (.if_icmp .ge 21) 3 := by decide +kernel
theorem d45_14 : DK cD5 14 (.aload_n 3) 1 := by decide +kernel
theorem d45_15 : DK cD5 15 (.iload 4) 2 := by decide +kernel
theorem d45_17 : DK cD5 17 (.aload_n 0) 1 := by decide +kernel
theorem d45_18 : DK cD5 18 (.iload_n 1) 1 := by decide +kernel
theorem d45_19 : DK cD5 19 (.caload) 1 := by decide +kernel
theorem d45_20 : DK cD5 20 (.invokestatic 111) 3 := by decide +kernel
theorem d45_23 : DK cD5 23 (.iinc 1 1) 3 := by decide +kernel
theorem d45_26 : DK cD5 26 (.iinc 4 1) 3 := by decide +kernel
theorem d45_29 : DK cD5 29 (.goto (-21)) 3 := by decide +kernel
theorem pd_35 : parseMethodDescriptor "([BII)V" = some ⟨[(.array .byte), .int, .int], none⟩ := by decide +kernel
theorem tnToBytes {p : Program} {l : Launch} {e : Env} {s : State} {m : MethodId} {args : Array Value} {below : List Frame} {meth : Method} {c : Code} {T0 : State} {locs : List Loc} {Z : State} {a0 : Array Value} {h0 : Heap} {n0 : Nat} (a1 : Addr) (a3 : Addr) (cs : List Int32) (kC k3 : ClassId) (dC : Value) (j : Nat)
  (X0 : Stand p l e (Rm 2 1 40 60) s m args below meth c T0 locs 1 40) (hx : p.tables.exec = Jvm.exec) (hZ : Z.Warmed39 s.vm) (hw : HW a0 Z) (hby : c.code = jdk_52_method_14_code) (hml : c.maxLocals = 5) (hown : s.vm.findClass "java/lang/StringUTF16" = some m.cls) (e0 : T0.heap = h0) (O0 : Old Z n0 h0) (N0 : Fr n0 locs) (S_AD : SAD Z) (S_HI : SHI Z) (S_LO : SLO Z) (V1 : Arv Z h0 a1 kC .char (oN cs.length) (cs.map Value.int) dC) (g3 : n0 ≤ a3) (ne13 : @Ne Nat a1 a3) (hn : cs.length ≤ 4) (V3 : Arv Z h0 a3 k3 .byte (oN (2 * cs.length)) (u16L cs j) (.int 0)) (hj : j < cs.length) :
  ∃ (T' : State) (h' : Heap) (L' : List Loc), Stand p l e (Rm 2 1 40 60) s m args below meth c T' L' 1 40 ∧ T'.heap = h' ∧ Fr n0 L' ∧ Keep h0 h' [a3] ∧ Arv Z h' a3 k3 .byte (oN (2 * cs.length)) (u16L cs (j + 1)) (.int 0) ∧ ∀ target, SS p e below T' m 8 #[vR a1, vI (oN (j + 1)), vI (oN cs.length), vR a3, vI (oN (j + 1))] [] target → SS p e below T0 m 8 #[vR a1, vI (oN j), vI (oN cs.length), vR a3, vI (oN j)] [] target := by
 have hn0 : n0 ≤ h0.size := O0.1 ▸ O0.2.1
 have pre0 : ∀ t, SS p e below T0 m 8 #[vR a1, vI (oN j), vI (oN cs.length), vR a3, vI (oN j)] [] t → SS p e below T0 m 8 #[vR a1, vI (oN j), vI (oN cs.length), vR a3, vI (oN j)] [] t := fun t k => k
 have hj31 : j < 2 ^ 31 := by omega
 have hn31 : cs.length < 2 ^ 31 := by omega
 have lt_a1 : @LT.lt Nat _ a1 h0.size := V1.lt
 have lt_a3 : @LT.lt Nat _ a3 h0.size := V3.lt
 obtain ⟨cl101, Ar101, q101, S101, Nn101, H101, G101⟩ := id V1
 have hat101 : cl101.slots[((oN j)).toNatClampNeg]? = some (.int (cs.getD j 0)) := (Has.at H101 (inb_of S101 ⟨own_nn hj31, (own_lt hj31 hn31).mpr hj⟩) (own_getD _ hj hj31))
 obtain ⟨_, _, ⟨T102, L102, k102, n102⟩, -, X102, ⟨Lc102, hQ102, l102, y102, z102⟩, st102⟩ := Jvm.LawKit.callS X0 hx (y := mN1) hown (mvT hZ (tw hw 230 rfl)) (mvT hZ (tw hw 231 rfl)) (mvT hZ (tw hw 156 rfl)) (mvT hZ (tw hw 232 rfl)) (by decide) (backOf (W := 0) (rmPutChar l Z a0 hw [] a3 (cs.getD j 0) j k3 (oN (2 * cs.length)) (u16L cs j) h0 n0 O0 S_AD S_HI S_LO g3 V3 (by omega) ((own_lt (by omega) (by omega)).mpr (by omega)) ((own_lt (by omega) (by omega)).mpr (by omega)) (by rw [u16L_len cs (Nat.le_of_lt hj)]; omega) (by rw [u16L_len cs (Nat.le_of_lt hj)]; omega)) hZ (tw hw 232 rfl) (tw hw 156 rfl) (by decide) (by decide)) (g := (mkF m 20 #[vR a1, vI (oN j), vI (oN cs.length), vR a3, vI (oN j)] [(.int (cs.getD j 0)), (.int (oN j)), (.ref a3)])) rfl (by rw [hml]; rfl) (argsL := [(.ref a3), (.int (oN j)), (.int (cs.getD j 0))]) (rest := []) (lenOf pd_35 rfl) rfl (wL _) (hb hby d45_20) (fun _ _ => ⟨rfl, e0, (by decide : 1 + 0 ≤ _), (by decide : 40 + 0 ≤ _)⟩)
 dsimp only [Pt.U, Pt.locs, Pt.cells, Pt.slots] at X102 l102 y102 z102 st102 hQ102
 subst l102 y102 z102
 obtain ⟨rfl, N102q, K102, V102⟩ := hQ102
 have sz1_K102 := K102.1
 rw [u16L_set cs hj] at V102
 have N102 := Fr.app N0 N102q
 have KC103 : Keep h0 T102.heap [a3] := (Keep.refl h0 [a3]).trans K102 (allS (Or.inl (List.mem_of_getElem? (i := 0) rfl)) (all0))
 refine ⟨T102, T102.heap, _, X102, rfl, N102, KC103, V102, fun target kt => pre0 _ ?_⟩
 show SS p e below T0 m 8 #[vR a1, vI (oN j), vI (oN cs.length), vR a3, vI (oN j)] [] _
 refine XS.iload X0.here hx rfl (hb hby d45_8) rfl ?_
 refine XS.iloadN X0.here hx rfl (hb hby d45_10) rfl ?_
 refine XS.icmpNo X0.here hx rfl (hb hby d45_11) rfl (tlt ((own_lt hj31 hn31).mpr hj : (oN j) < (oN cs.length))).2.1 ?_
 refine XS.aloadN X0.here hx rfl (hb hby d45_14) rfl rfl ?_
 refine XS.iload X0.here hx rfl (hb hby d45_15) rfl ?_
 refine XS.aloadN X0.here hx rfl (hb hby d45_17) rfl rfl ?_
 refine XS.iloadN X0.here hx rfl (hb hby d45_18) rfl ?_
 show SS p e below T0 m 19 #[vR a1, vI (oN j), vI (oN cs.length), vR a3, vI (oN j)] [(.int (oN j)), (.ref a1), (.int (oN j)), (.ref a3)] _
 refine X0.caload hx (j := (oN j)) (v := (.int (cs.getD j 0))) (by rw [e0]; exact Ar101.1) (State.isArrayOf_alike hZ.alike Ar101.2.1) Ar101.2.2 (inb_of S101 ⟨own_nn hj31, (own_lt hj31 hn31).mpr hj⟩) hat101 (g := (mkF m 19 #[vR a1, vI (oN j), vI (oN cs.length), vR a3, vI (oN j)] [(.int (oN j)), (.ref a1), (.int (oN j)), (.ref a3)])) rfl rfl (hb hby d45_19) _ ?_
 show SS p e below T0 m 20 #[vR a1, vI (oN j), vI (oN cs.length), vR a3, vI (oN j)] [(.int (cs.getD j 0)), (.int (oN j)), (.ref a3)] _
 refine st102 _ ?_
 refine XS.iinc X102.here hx rfl (hb hby d45_23) rfl (l' := #[vR a1, vI ((oN j) + (1 : Int32)), vI (oN cs.length), vR a3, vI (oN j)]) rfl ?_
 refine XS.iinc X102.here hx rfl (hb hby d45_26) rfl (l' := #[vR a1, vI ((oN j) + (1 : Int32)), vI (oN cs.length), vR a3, vI ((oN j) + (1 : Int32))]) rfl ?_
 refine XS.goto X102.here hx rfl (pc0 := 29) (pc' := 8) rfl (hb hby d45_29) (by decide) (by decide) ?_
 show SS p e below T102 m 8 #[vR a1, vI ((oN j) + (1 : Int32)), vI (oN cs.length), vR a3, vI ((oN j) + (1 : Int32))] [] _
 rw [own_succ j]
 exact kt
theorem lpToBytes {p : Program} {l : Launch} {e : Env} {s : State} {m : MethodId} {args : Array Value} {below : List Frame} {meth : Method} {c : Code} {T0 : State} {locs : List Loc} {Z : State} {a0 : Array Value} {h0 : Heap} {n0 : Nat} (a1 : Addr) (a3 : Addr) (cs : List Int32) (kC k3 : ClassId) (dC : Value)
  (X0 : Stand p l e (Rm 2 1 40 60) s m args below meth c T0 locs 1 40) (hx : p.tables.exec = Jvm.exec) (hZ : Z.Warmed39 s.vm) (hw : HW a0 Z) (hby : c.code = jdk_52_method_14_code) (hml : c.maxLocals = 5) (hown : s.vm.findClass "java/lang/StringUTF16" = some m.cls) (e0 : T0.heap = h0) (O0 : Old Z n0 h0) (N0 : Fr n0 locs) (S_AD : SAD Z) (S_HI : SHI Z) (S_LO : SLO Z) (V1 : Arv Z h0 a1 kC .char (oN cs.length) (cs.map Value.int) dC) (g3 : n0 ≤ a3) (ne13 : @Ne Nat a1 a3) (hn : cs.length ≤ 4)
  (V3 : Arv Z h0 a3 k3 .byte (oN (2 * cs.length)) (u16L cs 0) (.int 0)) :
  ∀ j, j ≤ cs.length → ∃ (T' : State) (h' : Heap) (L' : List Loc), Stand p l e (Rm 2 1 40 60) s m args below meth c T' L' 1 40 ∧ T'.heap = h' ∧ Fr n0 L' ∧ Keep h0 h' [a3] ∧ Arv Z h' a3 k3 .byte (oN (2 * cs.length)) (u16L cs j) (.int 0) ∧ ∀ target, SS p e below T' m 8 #[vR a1, vI (oN j), vI (oN cs.length), vR a3, vI (oN j)] [] target → SS p e below T0 m 8 #[vR a1, vI (oN 0), vI (oN cs.length), vR a3, vI (oN 0)] [] target := by
 intro j
 induction j with
 | zero => exact fun _ => ⟨T0, h0, locs, X0, e0, N0, Keep.refl _ _, V3, fun _ k => k⟩
 | succ j ih =>
  intro hj
  obtain ⟨T, h, L, X, e1, N, K, V, st⟩ := ih (by omega)
  obtain ⟨T2, h2, L2, X2, e2, N2, K2, V2, st2⟩ := tnToBytes a1 a3 cs kC k3 dC j X hx hZ hw hby hml hown e1 (O0.keep K (allS g3 all0)) N S_AD S_HI S_LO (V1.keep K (ninS ne13 nin0)) g3 ne13 hn V (by omega)
  exact ⟨T2, h2, L2, X2, e2, N2, K.trans K2 (allS (Or.inl (List.mem_of_getElem? (i := 0) rfl)) all0), V2, fun t k => st _ (st2 _ k)⟩
theorem d45_0 : DK cD5 0 (.iload_n 2) 1 := by decide +kernel
theorem d45_1 : DK cD5 1 (.invokestatic 107) 3 := by decide +kernel
theorem d45_4 : DK cD5 4 (.astore_n 3) 1 := by decide +kernel
theorem d45_5 : DK cD5 5 (.iconst 0) 1 := by decide +kernel
theorem d45_6 : DK cD5 6 (.istore 4) 2 := by decide +kernel
theorem d45_32 : DK cD5 32 (.aload_n 3) 1 := by decide +kernel
theorem d45_33 : DK cD5 33 (.areturn) 1 := by decide +kernel
theorem pd_33 : parseMethodDescriptor "(I)[B" = some ⟨[.int], some (.array .byte)⟩ := by decide +kernel
theorem ef_rmToBytes (m : MethodId) (y0 : Addr) (y1 : Int32) : entryFrame m #[(.ref y0), (.int 0), (.int y1)] 5 = (mkF m 0 #[vR y0, vI 0, vI y1, .unset, .unset] []) := by first | (simp [entryFrame, mkF, argsToLocals, Value.category]; done) | rfl
def Q_rmToBytes (Z : State) (a1 : Addr) (cs : List Int32) (kC : ClassId) (dC : Value) (h0 : Heap) (n0 : Nat) (v : Option Value) (h : Heap) (L : List Loc) : Prop := ∃ (t : Addr) (kb : ClassId), v = some (.ref t) ∧ Fr n0 L ∧ Keep h0 h [] ∧ h0.size ≤ t ∧ Arv Z h t kb .byte (oN (2 * cs.length)) (u16 cs) (.int 0)
theorem rmToBytes (l : Launch) (Z : State) (a0 : Array Value) (hw : HW a0 Z) (ws : List Jvm.Cond) (a1 : Addr) (cs : List Int32) (kC : ClassId) (dC : Value) (h0 : Heap) (n0 : Nat) (O0 : Old Z n0 h0) (S_AD : SAD Z) (S_HI : SHI Z) (S_LO : SLO Z) (V1 : Arv Z h0 a1 kC .char (oN cs.length) (cs.map Value.int) dC) (hn : cs.length ≤ 4) :
  MF l mN5 jdk_52_method_14_code 5 (some (.array .byte)) ws (Rm 2 1 40 60) Z #[(.ref a1), (.int 0), (.int (oN cs.length))] h0 (Q_rmToBytes Z a1 cs kC dC h0 n0) := by
 refine MetFree.of_bodySF (plainFor_of_name pn_29) hisR ?_
 intro p e s m args below meth c s₁ Bd hml0 hP hK
 obtain ⟨rfl, hZ, hh⟩ := hP
 have hx := Bd.exec
 have hby := Bd.bytes
 have hml : c.maxLocals = 5 := hml0
 have hown : s.vm.findClass "java/lang/StringUTF16" = some m.cls := findClass_of_methodNamed Bd.named
 have X0 : Stand p l e (Rm 2 1 40 60) s m #[(.ref a1), (.int 0), (.int (oN cs.length))] below meth c s₁ [] 0 0 := Stand.of_body Bd
 have e0 : s₁.heap = h0 := by rw [← hh, Bd.state]; rfl
 have N0 := Fr.nil n0
 have hn0 : n0 ≤ h0.size := O0.1 ▸ O0.2.1
 have pre0 : ∀ t, SS p e below s₁ m 0 #[vR a1, vI 0, vI (oN cs.length), .unset, .unset] [] t → SE p e below s₁ m #[(.ref a1), (.int 0), (.int (oN cs.length))] 5 t := fun t k => castTop (ef_rmToBytes m a1 ((oN cs.length))) k
 have hn31 : cs.length < 2 ^ 31 := by omega
 have lt_a1 : @LT.lt Nat _ a1 h0.size := V1.lt
 obtain ⟨_, _, ⟨T101, L101, k101, n101⟩, -, X101, ⟨Lc101, hQ101, l101, y101, z101⟩, st101⟩ := Jvm.LawKit.callS X0 hx (y := mN3) hown (mvT hZ (tw hw 223 rfl)) (mvT hZ (tw hw 224 rfl)) (mvT hZ (tw hw 156 rfl)) (mvT hZ (tw hw 225 rfl)) (by decide) (backOf (W := 0) (rm46 l Z a0 hw []  cs.length h0 n0 O0 (by omega)) hZ (tw hw 225 rfl) (tw hw 156 rfl) (by decide) (by decide)) (g := (mkF m 1 #[vR a1, vI 0, vI (oN cs.length), .unset, .unset] [(.int (oN cs.length))])) rfl (by rw [hml]; rfl) (argsL := [(.int (oN cs.length))]) (rest := []) (lenOf pd_33 rfl) rfl (wL _) (hb hby d45_1) (fun _ _ => ⟨rfl, e0, (by decide : 0 + 1 ≤ _), (by decide : 0 + 40 ≤ _)⟩)
 dsimp only [Pt.U, Pt.locs, Pt.cells, Pt.slots] at X101 l101 y101 z101 st101 hQ101
 subst l101 y101 z101
 obtain ⟨t101, kb101, rfl, N101q, K101, gt101, V101⟩ := hQ101
 have lt101 : @LT.lt Nat _ t101 T101.heap.size := V101.lt
 have sz1_K101 := K101.1
 have N101 := Fr.app N0 N101q
 have pre102 : ∀ t, SS p e below T101 m 8 #[vR a1, vI 0, vI (oN cs.length), vR t101, vI 0] [] t → SE p e below s₁ m #[(.ref a1), (.int 0), (.int (oN cs.length))] 5 t := by
  intro t kt
  refine pre0 _ ?_
  show SS p e below s₁ m 0 #[vR a1, vI 0, vI (oN cs.length), .unset, .unset] [] _
  refine XS.iloadN X0.here hx rfl (hb hby d45_0) rfl ?_
  show SS p e below s₁ m 1 #[vR a1, vI 0, vI (oN cs.length), .unset, .unset] [(.int (oN cs.length))] _
  refine st101 _ ?_
  refine XS.astoreN X101.here hx rfl (hb hby d45_4) rfl rfl (l' := #[vR a1, vI 0, vI (oN cs.length), vR t101, .unset]) rfl ?_
  refine XS.iconst X101.here hx rfl (hb hby d45_5) ?_
  refine XS.istore X101.here hx rfl (hb hby d45_6) rfl (l' := #[vR a1, vI 0, vI (oN cs.length), vR t101, vI 0]) rfl ?_
  exact kt
 have O104 : Old Z n0 T101.heap := O0.keep K101 all0
 have C105 := V1.keep K101 nin0
 obtain ⟨T103, h103, L103, X103, e103, N103, K103, V103, st103⟩ := lpToBytes a1 t101 cs kC kb101 dC X101 hx hZ hw hby hml hown rfl O104 N101 S_AD S_HI S_LO C105 (by omega) (by omega) hn (u16L_zero cs ▸ V101) cs.length (Nat.le_refl _)
 rw [u16L_full] at V103
 have sz2_K103 := K103.1
 have KC106 : Keep h0 T101.heap [] := (Keep.refl h0 []).trans K101 (all0)
 have KC107 : Keep h0 h103 [] := KC106.trans K103 (allS (Or.inr (by omega)) (all0))
 obtain ⟨fs, hr, hrun, hended, hW, hsame⟩ := X103.leave (v := some (.ref t101)) (nvr Bd.returns)
 refine ⟨_, _, pre102 _ ?_, hrun, hended, _, _, rfl, ?_, ⟨_, rfl⟩, hW, hsame.mono (by decide) (by decide)⟩
 ·skip
  refine st103 _ ?_
  show SS p e below T103 m 8 #[vR a1, vI (oN cs.length), vI (oN cs.length), vR t101, vI (oN cs.length)] [] _
  refine XS.iload X103.here hx rfl (hb hby d45_8) rfl ?_
  refine XS.iloadN X103.here hx rfl (hb hby d45_10) rfl ?_
  refine XS.icmpYes X103.here hx rfl (pc0 := 11) (pc' := 32) rfl (hb hby d45_11) rfl (flt (fun q => Nat.lt_irrefl _ ((own_lt hn31 hn31).mp q) : ¬ ((oN cs.length) < (oN cs.length)))).2.1 (by decide) (by decide) ?_
  refine XS.aloadN X103.here hx rfl (hb hby d45_32) rfl rfl ?_
  show SS p e below T103 m 33 #[vR a1, vI (oN cs.length), vI (oN cs.length), vR t101, vI (oN cs.length)] [(.ref t101)] _
  exact X103.areturnOut hx rfl Bd.returns rfl (hb hby d45_33) hr
 ·show Q_rmToBytes Z a1 cs kC dC h0 n0 _ T103.heap _
  rw [e103]
  exact ⟨_, _, rfl, N103, KC107, (by omega), V103⟩
theorem d29_0 : DK cD6 0 (.iload_n 2) 1 := by decide +kernel
theorem d29_1 : DK cD6 1 (.newarray .byte) 2 := by decide +kernel
theorem d29_3 : DK cD6 3 (.astore_n 3) 1 := by decide +kernel
theorem d29_4 : DK cD6 4 (.aload_n 0) 1 := by decide +kernel
theorem d29_5 : DK cD6 5 (.iload_n 1) 1 := by decide +kernel
theorem d29_6 : DK cD6 6 (.aload_n 3) 1 := by decide +kernel
theorem d29_7 : DK cD6 7 (.iconst 0) 1 := by decide +kernel
theorem d29_8 : DK cD6 8 (.iload_n 2) 1 := by decide +kernel
theorem d29_9 : DK cD6 9 (.invokestatic 115) 3 := by decide +kernel
theorem d29_12 : DK cD6 12 (.istore 4) 2 := by decide +kernel
theorem d29_14 : DK cD6 14 (.iload 4) 2 := by decide +kernel
theorem d29_16 : DK cD6 16 (.iload_n 2) 1 := by decide +kernel
theorem d29_17 : DK cD6 17 (.if_icmp .eq 40) 3 := by decide +kernel
theorem d29_20 : DK cD6 20 (.aload_n 0) 1 := by decide +kernel
theorem d29_21 : DK cD6 21 (.iload_n 1) 1 := by decide +kernel
theorem d29_22 : DK cD6 22 (.iload_n 2) 1 := by decide +kernel
theorem d29_23 : DK cD6 23 (.invokestatic 119) 3 := by decide +kernel
theorem d29_26 : DK cD6 26 (.astore 5) 2 := by decide +kernel
theorem d29_28 : DK cD6 28 (.aload 5) 2 := by decide +kernel
theorem d29_30 : DK cD6 30 (.iload 4) 2 := by decide +kernel
theorem d29_32 : DK cD6 32 (.invokestatic 71) 3 := by decide +kernel
theorem d29_35 : DK cD6 35 (.sipush 255) 3 := by decide +kernel
theorem d29_38 : DK cD6 38 (.if_icmp .gt 16) 3 := by decide +kernel
theorem d29_54 : DK cD6 54 (.aload 5) 2 := by decide +kernel
theorem d29_56 : DK cD6 56 (.areturn) 1 := by decide +kernel
theorem pd_24 : parseMethodDescriptor "([CI[BII)I" = some ⟨[(.array .char), .int, (.array .byte), .int, .int], some .int⟩ := by decide +kernel
theorem pd_23 : parseMethodDescriptor "([CII)[B" = some ⟨[(.array .char), .int, .int], some (.array .byte)⟩ := by decide +kernel
theorem pd_31 : parseMethodDescriptor "([BI)C" = some ⟨[(.array .byte), .int], some .char⟩ := by decide +kernel
theorem ef_rmCmp3 (m : MethodId) (y0 : Addr) (y1 : Int32) : entryFrame m #[(.ref y0), (.int 0), (.int y1)] 6 = (mkF m 0 #[vR y0, vI 0, vI y1, .unset, .unset, .unset] []) := by first | (simp [entryFrame, mkF, argsToLocals, Value.category]; done) | rfl
def Q_rmCmp3 (Z : State) (a1 : Addr) (cs : List Int32) (kC : ClassId) (dC : Value) (m1 : Nat) (h0 : Heap) (n0 : Nat) (v : Option Value) (h : Heap) (L : List Loc) : Prop := ∃ (t : Addr) (kb : ClassId), v = some (.ref t) ∧ Fr n0 L ∧ Keep h0 h [] ∧ h0.size ≤ t ∧ Arv Z h t kb .byte (oN (2 * cs.length)) (u16 cs) (.int 0)
theorem rmCmp3 (l : Launch) (Z : State) (a0 : Array Value) (hw : HW a0 Z) (ws : List Jvm.Cond) (a1 : Addr) (cs : List Int32) (kC : ClassId) (dC : Value) (m1 : Nat) (h0 : Heap) (n0 : Nat) (O0 : Old Z n0 h0) (S_AD : SAD Z) (S_HI : SHI Z) (S_LO : SLO Z) (V1 : Arv Z h0 a1 kC .char (oN cs.length) (cs.map Value.int) dC) (hn : cs.length ≤ 4) (hcs : ∀ c ∈ cs, ¬ c < 0 ∧ ¬ (65535 : Int32) < c) (hj : m1 < cs.length) (hpre : ∀ j, j < m1 → ¬ ((255 : Int32) < cs.getD j 0)) (hend : (255 : Int32) < (cs.getD m1 0)) :
  MF l mN6 jdk_52_method_16_code 6 (some (.array .byte)) ws (Rm 3 2 44 100) Z #[(.ref a1), (.int 0), (.int (oN cs.length))] h0 (Q_rmCmp3 Z a1 cs kC dC m1 h0 n0) := by
 refine MetFree.of_bodySF (plainFor_of_name pn_29) hisR ?_
 intro p e s m args below meth c s₁ Bd hml0 hP hK
 obtain ⟨rfl, hZ, hh⟩ := hP
 have hx := Bd.exec
 have hby := Bd.bytes
 have hml : c.maxLocals = 6 := hml0
 have hown : s.vm.findClass "java/lang/StringUTF16" = some m.cls := findClass_of_methodNamed Bd.named
 have X0 : Stand p l e (Rm 3 2 44 100) s m #[(.ref a1), (.int 0), (.int (oN cs.length))] below meth c s₁ [] 0 0 := Stand.of_body Bd
 have e0 : s₁.heap = h0 := by rw [← hh, Bd.state]; rfl
 have N0 := Fr.nil n0
 have hn0 : n0 ≤ h0.size := O0.1 ▸ O0.2.1
 have pre0 : ∀ t, SS p e below s₁ m 0 #[vR a1, vI 0, vI (oN cs.length), .unset, .unset, .unset] [] t → SE p e below s₁ m #[(.ref a1), (.int 0), (.int (oN cs.length))] 6 t := fun t k => castTop (ef_rmCmp3 m a1 ((oN cs.length))) k
 have hn31 : cs.length < 2 ^ 31 := by omega
 have lt_a1 : @LT.lt Nat _ a1 h0.size := V1.lt
 obtain ⟨T101, h101, k101, X101, e101, E101, A101, st101⟩ := newP X0 hx hZ (tw hw 20 rfl) e0 (g := (mkF m 1 #[vR a1, vI 0, vI (oN cs.length), .unset, .unset, .unset] [(.int (oN cs.length))])) rfl (hb hby d29_1) rfl (own_nn hn31) (cap := 4) (by rw [own_nat hn31]; omega) (by decide) (by decide) (by decide)
 obtain ⟨b101, g101⟩ : ∃ z, z = h0.size := ⟨_, rfl⟩
 rw [← g101] at A101 st101
 have V101 : Arv Z h101 b101 k101 .byte (oN cs.length) (List.replicate cs.length (.int 0)) (.int 0) := (Arv.new A101 (own_nn hn31)).pad (pad_rep [] (.int 0) cs.length)
 have lt101 : @LT.lt Nat _ b101 h101.size := V101.lt
 have K101 : Keep h0 h101 [] := (Keep.refl _ _).ext E101
 have sz1_K101 := K101.1
 have C103 := V1.keep K101 nin0
 have O104 : Old Z n0 h101 := O0.keep K101 all0
 obtain ⟨_, _, ⟨T102, L102, k102, n102⟩, -, X102, ⟨Lc102, hQ102, l102, y102, z102⟩, st102⟩ := Jvm.LawKit.callS X101 hx (y := mN4) hown (mvT hZ (tw hw 158 rfl)) (mvT hZ (tw hw 159 rfl)) (mvT hZ (tw hw 156 rfl)) (mvT hZ (tw hw 160 rfl)) (by decide) (backOf (W := 0) (rmCmp5 l Z a0 hw [] a1 b101 cs kC k101 dC m1 h101 n0 O104 C103 (by omega : @LE.le Nat _ n0 b101) (by omega) hn (latL_zero cs ▸ V101) hj hpre hend) hZ (tw hw 160 rfl) (tw hw 156 rfl) (by decide) (by decide)) (g := (mkF m 9 #[vR a1, vI 0, vI (oN cs.length), vR b101, .unset, .unset] [(.int (oN cs.length)), (.int 0), (.ref b101), (.int 0), (.ref a1)])) rfl (by rw [hml]; rfl) (argsL := [(.ref a1), (.int 0), (.ref b101), (.int 0), (.int (oN cs.length))]) (rest := []) (lenOf pd_24 rfl) rfl (wL _) (hb hby d29_9) (fun _ _ => ⟨rfl, e101, (by decide : 1 + 0 ≤ _), (by decide : 4 + 0 ≤ _)⟩)
 dsimp only [Pt.U, Pt.locs, Pt.cells, Pt.slots] at X102 l102 y102 z102 st102 hQ102
 subst l102 y102 z102
 obtain ⟨rfl, N102q, K102⟩ := hQ102
 have sz2_K102 := K102.1
 have N102 := Fr.app N0 N102q
 have C106 := C103.keep K102 (ninS (by omega : @Ne Nat a1 b101) (nin0))
 have O107 : Old Z n0 T102.heap := O104.keep K102 (allS (by omega) (all0))
 obtain ⟨_, _, ⟨T105, L105, k105, n105⟩, -, X105, ⟨Lc105, hQ105, l105, y105, z105⟩, st105⟩ := Jvm.LawKit.callS X102 hx (y := mN5) hown (mvT hZ (tw hw 220 rfl)) (mvT hZ (tw hw 221 rfl)) (mvT hZ (tw hw 156 rfl)) (mvT hZ (tw hw 222 rfl)) (by decide) (backOf (W := 0) (rmToBytes l Z a0 hw [] a1 cs kC dC T102.heap n0 O107 S_AD S_HI S_LO C106 hn) hZ (tw hw 222 rfl) (tw hw 156 rfl) (by decide) (by decide)) (g := (mkF m 23 #[vR a1, vI 0, vI (oN cs.length), vR b101, vI (oN m1), .unset] [(.int (oN cs.length)), (.int 0), (.ref a1)])) rfl (by rw [hml]; rfl) (argsL := [(.ref a1), (.int 0), (.int (oN cs.length))]) (rest := []) (lenOf pd_23 rfl) rfl (wL _) (hb hby d29_23) (fun _ _ => ⟨rfl, rfl, (by decide : 1 + 1 ≤ _), (by decide : 4 + 40 ≤ _)⟩)
 dsimp only [Pt.U, Pt.locs, Pt.cells, Pt.slots] at X105 l105 y105 z105 st105 hQ105
 subst l105 y105 z105
 obtain ⟨t105, kb105, rfl, N105q, K105, gt105, V105⟩ := hQ105
 have lt105 : @LT.lt Nat _ t105 T105.heap.size := V105.lt
 have sz3_K105 := K105.1
 have N105 := Fr.app N102 N105q
 have O109 : Old Z n0 T105.heap := O107.keep K105 all0
 obtain ⟨_, _, ⟨T108, L108, k108, n108⟩, -, X108, ⟨Lc108, hQ108, l108, y108, z108⟩, st108⟩ := Jvm.LawKit.callS X105 hx (y := mN0) hown (mvT hZ (tw hw 236 rfl)) (mvT hZ (tw hw 237 rfl)) (mvT hZ (tw hw 156 rfl)) (mvT hZ (tw hw 238 rfl)) (by decide) (backOf (W := 0) (rmGetChar l Z a0 hw [] t105 m1 kb105 (oN (2 * cs.length)) (u16 cs) ((cs.getD m1 0).toInt8.toInt32) (((cs.getD m1 0) >>> ((8 : Int32) &&& 31)).toInt8.toInt32) T105.heap n0 O109 S_AD S_HI S_LO V105 (by omega) ((own_lt (by omega) (by omega)).mpr (by omega)) ((own_lt (by omega) (by omega)).mpr (by omega)) (u16_get cs hj).1 (u16_get cs hj).2) hZ (tw hw 238 rfl) (tw hw 156 rfl) (by decide) (by decide)) (g := (mkF m 32 #[vR a1, vI 0, vI (oN cs.length), vR b101, vI (oN m1), vR t105] [(.int (oN m1)), (.ref t105)])) rfl (by rw [hml]; rfl) (argsL := [(.ref t105), (.int (oN m1))]) (rest := []) (lenOf pd_31 rfl) rfl (wL _) (hb hby d29_32) (fun _ _ => ⟨rfl, rfl, (by decide : 2 + 0 ≤ _), (by decide : 44 + 0 ≤ _)⟩)
 dsimp only [Pt.U, Pt.locs, Pt.cells, Pt.slots] at X108 l108 y108 z108 st108 hQ108
 subst l108 y108 z108
 obtain ⟨rfl, N108q, H108⟩ := hQ108
 have N108 := Fr.app N105 N108q
 have hr110 : (StrChars.pairCh (StrChars.lo8 (cs.getD m1 0)) (StrChars.hi8 (cs.getD m1 0))) = (cs.getD m1 0) := StrChars.pair_says (own_rng hcs hj).1 (own_rng hcs hj).2
 have KC111 : Keep h0 h101 [] := (Keep.refl h0 []).trans K101 (all0)
 have KC112 : Keep h0 T102.heap [] := KC111.trans K102 (allS (Or.inr (by omega)) (all0))
 have KC113 : Keep h0 T105.heap [] := KC112.trans K105 (all0)
 obtain ⟨fs, hr, hrun, hended, hW, hsame⟩ := X108.leave (v := some (.ref t105)) (nvr Bd.returns)
 refine ⟨_, _, pre0 _ ?_, hrun, hended, _, _, rfl, ?_, ⟨_, rfl⟩, hW, hsame.mono (by decide) (by decide)⟩
 ·skip
  show SS p e below s₁ m 0 #[vR a1, vI 0, vI (oN cs.length), .unset, .unset, .unset] [] _
  refine XS.iloadN X0.here hx rfl (hb hby d29_0) rfl ?_
  show SS p e below s₁ m 1 #[vR a1, vI 0, vI (oN cs.length), .unset, .unset, .unset] [(.int (oN cs.length))] _
  refine st101 _ ?_
  refine XS.astoreN X101.here hx rfl (hb hby d29_3) rfl rfl (l' := #[vR a1, vI 0, vI (oN cs.length), vR b101, .unset, .unset]) rfl ?_
  refine XS.aloadN X101.here hx rfl (hb hby d29_4) rfl rfl ?_
  refine XS.iloadN X101.here hx rfl (hb hby d29_5) rfl ?_
  refine XS.aloadN X101.here hx rfl (hb hby d29_6) rfl rfl ?_
  refine XS.iconst X101.here hx rfl (hb hby d29_7) ?_
  refine XS.iloadN X101.here hx rfl (hb hby d29_8) rfl ?_
  show SS p e below T101 m 9 #[vR a1, vI 0, vI (oN cs.length), vR b101, .unset, .unset] [(.int (oN cs.length)), (.int 0), (.ref b101), (.int 0), (.ref a1)] _
  refine st102 _ ?_
  refine XS.istore X102.here hx rfl (hb hby d29_12) rfl (l' := #[vR a1, vI 0, vI (oN cs.length), vR b101, vI (oN m1), .unset]) rfl ?_
  refine XS.iload X102.here hx rfl (hb hby d29_14) rfl ?_
  refine XS.iloadN X102.here hx rfl (hb hby d29_16) rfl ?_
  refine XS.icmpNo X102.here hx rfl (hb hby d29_17) rfl (feq (fun q => Nat.ne_of_lt hj ((own_eqn (by omega) hn31).mp q) : ¬ ((oN m1) = (oN cs.length)))).1 ?_
  refine XS.aloadN X102.here hx rfl (hb hby d29_20) rfl rfl ?_
  refine XS.iloadN X102.here hx rfl (hb hby d29_21) rfl ?_
  refine XS.iloadN X102.here hx rfl (hb hby d29_22) rfl ?_
  show SS p e below T102 m 23 #[vR a1, vI 0, vI (oN cs.length), vR b101, vI (oN m1), .unset] [(.int (oN cs.length)), (.int 0), (.ref a1)] _
  refine st105 _ ?_
  refine XS.astore X105.here hx rfl (hb hby d29_26) rfl rfl (l' := #[vR a1, vI 0, vI (oN cs.length), vR b101, vI (oN m1), vR t105]) rfl ?_
  refine XS.aload X105.here hx rfl (hb hby d29_28) rfl rfl ?_
  refine XS.iload X105.here hx rfl (hb hby d29_30) rfl ?_
  show SS p e below T105 m 32 #[vR a1, vI 0, vI (oN cs.length), vR b101, vI (oN m1), vR t105] [(.int (oN m1)), (.ref t105)] _
  refine st108 _ ?_
  show SS p e below T108 m 35 #[vR a1, vI 0, vI (oN cs.length), vR b101, vI (oN m1), vR t105] [(.int (StrChars.pairCh (StrChars.lo8 (cs.getD m1 0)) (StrChars.hi8 (cs.getD m1 0))))] _
  rw [hr110]
  refine XS.sipush X108.here hx rfl (hb hby d29_35) ?_
  refine XS.icmpYes X108.here hx rfl (pc0 := 38) (pc' := 54) rfl (hb hby d29_38) rfl (tlt (hend : (255 : Int32) < (cs.getD m1 0))).2.2.1 (by decide) (by decide) ?_
  refine XS.aload X108.here hx rfl (hb hby d29_54) rfl rfl ?_
  show SS p e below T108 m 56 #[vR a1, vI 0, vI (oN cs.length), vR b101, vI (oN m1), vR t105] [(.ref t105)] _
  exact X108.areturnOut hx rfl Bd.returns rfl (hb hby d29_56) hr
 ·show Q_rmCmp3 Z a1 cs kC dC m1 h0 n0 _ T108.heap _
  rw [H108]
  exact ⟨_, _, rfl, N108, KC113, (by omega), V105⟩
theorem d31_0 : DK cD7 0 (.iload_n 1) 1 := by decide +kernel
theorem d31_1 : DK cD7 1 (.aload_n 0) 1 := by decide +kernel
theorem d31_2 : DK cD7 2 (.arraylength) 1 := by decide +kernel
theorem d31_3 : DK cD7 3 (.isub) 1 := by decide +kernel
theorem d31_4 : DK cD7 4 (.bipush 31) 2 := by decide +kernel
theorem d31_6 : DK cD7 6 (.iushr) 1 := by decide +kernel
theorem d31_7 : DK cD7 7 (.i2b) 1 := by decide +kernel
theorem d31_8 : DK cD7 8 (.ireturn) 1 := by decide +kernel
theorem ef_rmCdrLenU (m : MethodId) (y0 : Addr) (y1 : Int32) : entryFrame m #[(.ref y0), (.int y1)] 2 = (mkF m 0 #[vR y0, vI y1] []) := by first | (simp [entryFrame, mkF, argsToLocals, Value.category]; done) | rfl
def Q_rmCdrLenU (Z : State) (a1 : Addr) (cs : List Int32) (k1 : ClassId) (vs : List Value) (h0 : Heap) (n0 : Nat) (v : Option Value) (h : Heap) (L : List Loc) : Prop := v = some (.int 1) ∧ Fr n0 L ∧ h = h0
theorem rmCdrLenU (l : Launch) (Z : State) (a0 : Array Value) (hw : HW a0 Z) (ws : List Jvm.Cond) (a1 : Addr) (cs : List Int32) (k1 : ClassId) (vs : List Value) (h0 : Heap) (n0 : Nat) (O0 : Old Z n0 h0) (V1 : Arv Z h0 a1 k1 .byte (oN (2 * cs.length)) vs (.int 0)) (h0n : 0 < cs.length) (hn : cs.length ≤ 4) :
  MF l mN7 jdk_52_method_15_code 2 (some .byte) ws (Rm 0 0 0 0) Z #[(.ref a1), (.int (oN cs.length))] h0 (Q_rmCdrLenU Z a1 cs k1 vs h0 n0) := by
 refine MetFree.of_bodySF (plainFor_of_name pn_29) hisR ?_
 intro p e s m args below meth c s₁ Bd hml0 hP hK
 obtain ⟨rfl, hZ, hh⟩ := hP
 have hx := Bd.exec
 have hby := Bd.bytes
 have hml : c.maxLocals = 2 := hml0
 have hown : s.vm.findClass "java/lang/StringUTF16" = some m.cls := findClass_of_methodNamed Bd.named
 have X0 : Stand p l e (Rm 0 0 0 0) s m #[(.ref a1), (.int (oN cs.length))] below meth c s₁ [] 0 0 := Stand.of_body Bd
 have e0 : s₁.heap = h0 := by rw [← hh, Bd.state]; rfl
 have N0 := Fr.nil n0
 have hn0 : n0 ≤ h0.size := O0.1 ▸ O0.2.1
 have pre0 : ∀ t, SS p e below s₁ m 0 #[vR a1, vI (oN cs.length)] [] t → SE p e below s₁ m #[(.ref a1), (.int (oN cs.length))] 2 t := fun t k => castTop (ef_rmCdrLenU m a1 ((oN cs.length))) k
 obtain ⟨cl101, Ar101, q101, S101, Nn101, H101, G101⟩ := id V1
 obtain ⟨fs, hr, hrun, hended, hW, hsame⟩ := X0.leave (v := some (.int (nar .byte (((((oN cs.length) - (oN (2 * cs.length))).toUInt32 >>> ((31 : Int32) &&& 31).toUInt32).toInt32).toInt8.toInt32)))) (nvr Bd.returns)
 refine ⟨_, _, pre0 _ ?_, hrun, hended, _, _, rfl, ?_, ⟨_, rfl⟩, hW, hsame.mono (by decide) (by decide)⟩
 ·skip
  show SS p e below s₁ m 0 #[vR a1, vI (oN cs.length)] [] _
  refine XS.iloadN X0.here hx rfl (hb hby d31_0) rfl ?_
  refine XS.aloadN X0.here hx rfl (hb hby d31_1) rfl rfl ?_
  show SS p e below s₁ m 2 #[vR a1, vI (oN cs.length)] [(.ref a1), (.int (oN cs.length))] _
  refine X0.arraylength hx (by rw [e0]; exact Ar101.1) (State.isArrayOf_alike hZ.alike Ar101.2.1) (g := (mkF m 2 #[vR a1, vI (oN cs.length)] [(.ref a1), (.int (oN cs.length))])) rfl rfl (hb hby d31_2) _ ?_
  rw [len_of S101 Nn101]
  refine XS.isub X0.here hx rfl (hb hby d31_3) rfl ?_
  refine XS.bipush X0.here hx rfl (hb hby d31_4) ?_
  show SS p e below s₁ m 6 #[vR a1, vI (oN cs.length)] [(.int 31), (.int ((oN cs.length) - (oN (2 * cs.length))))] _
  refine XS.iushr X0.here hx rfl (hb hby d31_6) rfl ?_
  refine XS.i2b X0.here hx rfl (hb hby d31_7) rfl ?_
  show SS p e below s₁ m 8 #[vR a1, vI (oN cs.length)] [(.int (((((oN cs.length) - (oN (2 * cs.length))).toUInt32 >>> ((31 : Int32) &&& 31).toUInt32).toInt32).toInt8.toInt32))] _
  exact retN X0 hx (t := .byte) Bd.returns (by simp) (hb hby d31_8) hr
 ·show Q_rmCdrLenU Z a1 cs k1 vs h0 n0 _ s₁.heap _
  rw [e0]
  exact ⟨congrArg (fun z => some (Value.int z)) (own_coder h0n (by omega)), N0, rfl⟩
theorem d3_0 : DK cD8 0 (.aload_n 0) 1 := by decide +kernel
theorem d3_1 : DK cD8 1 (.invokespecial 1) 3 := by decide +kernel
theorem d3_4 : DK cD8 4 (.iload_n 3) 1 := by decide +kernel
theorem d3_5 : DK cD8 5 (.ifCond .ne 22) 3 := by decide +kernel
theorem d3_27 : DK cD8 27 (.getstatic 38) 3 := by decide +kernel
theorem d3_30 : DK cD8 30 (.ifCond .eq 28) 3 := by decide +kernel
theorem d3_33 : DK cD8 33 (.aload_n 1) 1 := by decide +kernel
theorem d3_34 : DK cD8 34 (.iload_n 2) 1 := by decide +kernel
theorem d3_35 : DK cD8 35 (.iload_n 3) 1 := by decide +kernel
theorem d3_36 : DK cD8 36 (.invokestatic 177) 3 := by decide +kernel
theorem d3_39 : DK cD8 39 (.astore 5) 2 := by decide +kernel
theorem d3_41 : DK cD8 41 (.aload_n 0) 1 := by decide +kernel
theorem d3_42 : DK cD8 42 (.aload 5) 2 := by decide +kernel
theorem d3_44 : DK cD8 44 (.iload_n 3) 1 := by decide +kernel
theorem d3_45 : DK cD8 45 (.invokestatic 47) 3 := by decide +kernel
theorem d3_48 : DK cD8 48 (.putfield 15) 3 := by decide +kernel
theorem d3_51 : DK cD8 51 (.aload_n 0) 1 := by decide +kernel
theorem d3_52 : DK cD8 52 (.aload 5) 2 := by decide +kernel
theorem d3_54 : DK cD8 54 (.putfield 9) 3 := by decide +kernel
theorem d3_57 : DK cD8 57 (.return_) 1 := by decide +kernel
theorem pn_2 : plainName "java/lang/String" = true := by first | (simp [plainName, overriddenIn]; done) | decide +kernel
theorem pd_25 : parseMethodDescriptor "([BI)B" = some ⟨[(.array .byte), .int], some .byte⟩ := by decide +kernel
theorem ef_rmInit4U (m : MethodId) (y0 : Addr) (y1 : Addr) (y2 : Int32) : entryFrame m #[(.ref y0), (.ref y1), (.int 0), (.int y2), .null] 6 = (mkF m 0 #[vR y0, vR y1, vI 0, vI y2, .val .null, .unset] []) := by first | (simp [entryFrame, mkF, argsToLocals, Value.category]; done) | rfl
def Q_rmInit4U (Z : State) (a1 : Addr) (a2 : Addr) (cs : List Int32) (kC : ClassId) (dC : Value) (m1 : Nat) (cs0 : Int32) (h0 : Heap) (n0 : Nat) (v : Option Value) (h : Heap) (L : List Loc) : Prop := ∃ (t : Addr) (kb : ClassId), v = none ∧ Fr n0 L ∧ Keep h0 h [a1] ∧ Exa Z h a1 "java/lang/String" ∧ Fld Z h a1 "java/lang/String" "value" "[B" (.ref t) ∧ Fld Z h a1 "java/lang/String" "coder" "B" (.int 1) ∧ h0.size ≤ t ∧ @Ne Nat t a1 ∧ Arv Z h t kb .byte (oN (2 * cs.length)) (u16 cs) (.int 0)
theorem rmInit4U (l : Launch) (Z : State) (a0 : Array Value) (hw : HW a0 Z) (ws : List Jvm.Cond) (a1 : Addr) (a2 : Addr) (cs : List Int32) (kC : ClassId) (dC : Value) (m1 : Nat) (cs0 : Int32) (h0 : Heap) (n0 : Nat) (O0 : Old Z n0 h0) (S_CS : SCS Z cs0) (c_CS : ¬ (cs0 = (0 : Int32))) (S_AD : SAD Z) (S_HI : SHI Z) (S_LO : SLO Z) (V1 : Arv Z h0 a2 kC .char (oN cs.length) (cs.map Value.int) dC) (hn : cs.length ≤ 4) (hcs : ∀ c ∈ cs, ¬ c < 0 ∧ ¬ (65535 : Int32) < c) (hj : m1 < cs.length) (hpre : ∀ j, j < m1 → ¬ ((255 : Int32) < cs.getD j 0)) (hend : (255 : Int32) < (cs.getD m1 0)) (g1 : n0 ≤ a1) (E1 : Exa Z h0 a1 "java/lang/String") (F1 : Fld Z h0 a1 "java/lang/String" "value" "[B" .null) (F2 : Fld Z h0 a1 "java/lang/String" "coder" "B" (.int 0)) (ne12 : @Ne Nat a2 a1) :
  MF l mN8 jdk_42_method_149_code 6 none ws (Rm 4 2 44 130) Z #[(.ref a1), (.ref a2), (.int 0), (.int (oN cs.length)), .null] h0 (Q_rmInit4U Z a1 a2 cs kC dC m1 cs0 h0 n0) := by
 refine MetFree.of_bodySF (plainFor_of_name pn_2) hisR ?_
 intro p e s m args below meth c s₁ Bd hml0 hP hK
 obtain ⟨rfl, hZ, hh⟩ := hP
 have hx := Bd.exec
 have hby := Bd.bytes
 have hml : c.maxLocals = 6 := hml0
 have hown : s.vm.findClass "java/lang/String" = some m.cls := findClass_of_methodNamed Bd.named
 have hnm := (name_of_methodNamed Bd.named Bd.method).1
 have X0 : Stand p l e (Rm 4 2 44 130) s m #[(.ref a1), (.ref a2), (.int 0), (.int (oN cs.length)), .null] below meth c s₁ [] 0 0 := Stand.of_body Bd
 have e0 : s₁.heap = h0 := by rw [← hh, Bd.state]; rfl
 have N0 := Fr.nil n0
 have hn0 : n0 ≤ h0.size := O0.1 ▸ O0.2.1
 have pre0 : ∀ t, SS p e below s₁ m 0 #[vR a1, vR a2, vI 0, vI (oN cs.length), .val .null, .unset] [] t → SE p e below s₁ m #[(.ref a1), (.ref a2), (.int 0), (.int (oN cs.length)), .null] 6 t := fun t k => castTop (ef_rmInit4U m a1 a2 ((oN cs.length))) k
 have hn31 : cs.length < 2 ^ 31 := by omega
 have lt_a1 : @LT.lt Nat _ a1 h0.size := E1.lt
 have lt_a2 : @LT.lt Nat _ a2 h0.size := V1.lt
 obtain ⟨T101, X101, e101, st101⟩ := initO X0 hx hZ hown (tw hw 16 rfl) (tw hw 17 rfl) (tw hw 18 rfl) e0 (g := (mkF m 1 #[vR a1, vR a2, vI 0, vI (oN cs.length), .val .null, .unset] [(.ref a1)])) rfl (by rw [hml]; rfl) rfl (hb hby d3_1) (by decide) (W := 0) (wL _) (by decide)
 obtain ⟨T102, X102, e102, st102⟩ := getS2 X101 hx hZ hown (host := "") (Or.inl (tw hw 54 rfl)) Via.refl e101 (Sta.ext O0.2 S_CS) (g := (mkF m 27 #[vR a1, vR a2, vI 0, vI (oN cs.length), .val .null, .unset] [])) rfl (hb hby d3_27)
 obtain ⟨_, _, ⟨T103, L103, k103, n103⟩, -, X103, ⟨Lc103, hQ103, l103, y103, z103⟩, st103⟩ := Jvm.LawKit.callS X102 hx (y := mN6) hown (mvT hZ (tw hw 154 rfl)) (mvT hZ (tw hw 155 rfl)) (mvT hZ (tw hw 156 rfl)) (mvT hZ (tw hw 157 rfl)) (by decide) (backOf (W := 0) (rmCmp3 l Z a0 hw [] a2 cs kC dC m1 h0 n0 O0 S_AD S_HI S_LO V1 hn hcs hj hpre hend) hZ (tw hw 157 rfl) (tw hw 156 rfl) (by decide) (by decide)) (g := (mkF m 36 #[vR a1, vR a2, vI 0, vI (oN cs.length), .val .null, .unset] [(.int (oN cs.length)), (.int 0), (.ref a2)])) rfl (by rw [hml]; rfl) (argsL := [(.ref a2), (.int 0), (.int (oN cs.length))]) (rest := []) (lenOf pd_23 rfl) rfl (wL _) (hb hby d3_36) (fun _ _ => ⟨rfl, e102, (by decide : 0 + 2 ≤ _), (by decide : 0 + 44 ≤ _)⟩)
 dsimp only [Pt.U, Pt.locs, Pt.cells, Pt.slots] at X103 l103 y103 z103 st103 hQ103
 subst l103 y103 z103
 obtain ⟨t103, kb103, rfl, N103q, K103, gt103, V103⟩ := hQ103
 have lt103 : @LT.lt Nat _ t103 T103.heap.size := V103.lt
 have sz1_K103 := K103.1
 have N103 := Fr.app N0 N103q
 have O105 : Old Z n0 T103.heap := O0.keep K103 all0
 obtain ⟨_, _, ⟨T104, L104, k104, n104⟩, -, X104, ⟨Lc104, hQ104, l104, y104, z104⟩, st104⟩ := Jvm.LawKit.callS X103 hx (y := mN7) hown (mvT hZ (tw hw 161 rfl)) (mvT hZ (tw hw 162 rfl)) (mvT hZ (tw hw 156 rfl)) (mvT hZ (tw hw 163 rfl)) (by decide) (backOf (W := 1) (rmCdrLenU l Z a0 hw [] t103 cs kb103 (u16 cs) T103.heap n0 O105 V103 (by omega) hn) hZ (tw hw 163 rfl) (tw hw 156 rfl) (by decide) (by decide)) (g := (mkF m 45 #[vR a1, vR a2, vI 0, vI (oN cs.length), .val .null, vR t103] [(.int (oN cs.length)), (.ref t103), (.ref a1)])) rfl (by rw [hml]; rfl) (argsL := [(.ref t103), (.int (oN cs.length))]) (rest := [(.ref a1)]) (lenOf pd_25 rfl) rfl (wL _) (hb hby d3_45) (fun _ _ => ⟨rfl, rfl, (by decide : 2 + 0 ≤ _), (by decide : 44 + 0 ≤ _)⟩)
 dsimp only [Pt.U, Pt.locs, Pt.cells, Pt.slots] at X104 l104 y104 z104 st104 hQ104
 subst l104 y104 z104
 obtain ⟨rfl, N104q, H104⟩ := hQ104
 have N104 := Fr.app N103 N104q
 have C106 := E1.keep K103
 have C107 := F2.keep K103 nin0
 obtain ⟨T108, h108, X108, e108, W108, st108⟩ := putFN X104 hx hZ hown (tw hw 26 rfl) Via.refl H104 C107 C106 (Or.inr ⟨(tw hw 22 rfl), rfl, hnm⟩) (tw hw 7 rfl) (ty := .byte) (v' := (.int 1)) (by decide) rfl rfl (g := (mkF m 48 #[vR a1, vR a2, vI 0, vI (oN cs.length), .val .null, vR t103] [(.int 1), (.ref a1)])) rfl rfl (hb hby d3_48)
 have K108 := Keep.of_wr W108
 have Fw108 := Fld.same W108 C107
 have N108 := Fr.snoc X108 N104 (by omega : @LE.le Nat _ n0 a1)
 have sz2_K108 := K108.1
 have C109 := C106.keep K108
 have C110 := F1.keep K103 nin0
 have C111 := Fld.other W108 C110 (Or.inr (slot_ne (Or.inr (tw hw 21 rfl)) (Or.inr (tw hw 22 rfl)) (by decide) (t := (.array .byte)) (t' := .byte) (by decide) (by decide)))
 obtain ⟨T112, h112, X112, e112, W112, st112⟩ := putF X108 hx hZ hown (host := "") (Or.inl (tw hw 25 rfl)) Via.refl e108 C111 C109 (Or.inr ⟨(tw hw 21 rfl), rfl, hnm⟩) (tw hw 7 rfl) (ty := (.array .byte)) (by decide) rfl rfl (g := (mkF m 54 #[vR a1, vR a2, vI 0, vI (oN cs.length), .val .null, vR t103] [(.ref t103), (.ref a1)])) rfl rfl (hb hby d3_54)
 have K112 := Keep.of_wr W112
 have Fw112 := Fld.same W112 C111
 have N112 := Fr.snoc X112 N108 (by omega : @LE.le Nat _ n0 a1)
 have sz3_K112 := K112.1
 have KC113 : Keep h0 T103.heap [a1] := (Keep.refl h0 [a1]).trans K103 (all0)
 have KC114 : Keep h0 h108 [a1] := KC113.trans K108 (allS (Or.inl (List.mem_of_getElem? (i := 0) rfl)) (all0))
 have KC115 : Keep h0 h112 [a1] := KC114.trans K112 (allS (Or.inl (List.mem_of_getElem? (i := 0) rfl)) (all0))
 have C116 := C109.keep K112
 have C117 := Fld.other W112 Fw108 (Or.inr (slot_ne (Or.inr (tw hw 22 rfl)) (Or.inr (tw hw 21 rfl)) (by decide) (t := .byte) (t' := (.array .byte)) (by decide) (by decide)))
 have KD118 : Keep T103.heap h112 [a1] := ((Keep.refl _ _).trans K108 (allS (Or.inl (List.mem_of_getElem? (i := 0) rfl)) (all0))).trans K112 (allS (Or.inl (List.mem_of_getElem? (i := 0) rfl)) (all0))
 have C119 := V103.keep KD118 (ninS (by omega : @Ne Nat t103 a1) (nin0))
 obtain ⟨fs, hr, hrun, hended, hW, hsame⟩ := X112.leave (v := none) (fun _ => rfl)
 refine ⟨_, _, pre0 _ ?_, hrun, hended, _, _, rfl, ?_, ⟨_, rfl⟩, hW, hsame.mono (by decide) (by decide)⟩
 ·skip
  show SS p e below s₁ m 0 #[vR a1, vR a2, vI 0, vI (oN cs.length), .val .null, .unset] [] _
  refine XS.aloadN X0.here hx rfl (hb hby d3_0) rfl rfl ?_
  show SS p e below s₁ m 1 #[vR a1, vR a2, vI 0, vI (oN cs.length), .val .null, .unset] [(.ref a1)] _
  refine st101 _ ?_
  refine XS.iloadN X101.here hx rfl (hb hby d3_4) rfl ?_
  refine XS.ifYes X101.here hx rfl (pc0 := 5) (pc' := 27) rfl (hb hby d3_5) rfl ((if0 _ _).trans (feq (fun q => by have := (own_eqn (j := 0) hn31 (by decide)).mp q; omega : ¬ ((oN cs.length) = (0 : Int32)))).2) (by decide) (by decide) ?_
  show SS p e below T101 m 27 #[vR a1, vR a2, vI 0, vI (oN cs.length), .val .null, .unset] [] _
  refine st102 _ ?_
  refine XS.ifNo X102.here hx rfl (hb hby d3_30) rfl ((if0 _ _).trans (feq (c_CS : ¬ (cs0 = (0 : Int32)))).1) ?_
  refine XS.aloadN X102.here hx rfl (hb hby d3_33) rfl rfl ?_
  refine XS.iloadN X102.here hx rfl (hb hby d3_34) rfl ?_
  refine XS.iloadN X102.here hx rfl (hb hby d3_35) rfl ?_
  show SS p e below T102 m 36 #[vR a1, vR a2, vI 0, vI (oN cs.length), .val .null, .unset] [(.int (oN cs.length)), (.int 0), (.ref a2)] _
  refine st103 _ ?_
  refine XS.astore X103.here hx rfl (hb hby d3_39) rfl rfl (l' := #[vR a1, vR a2, vI 0, vI (oN cs.length), .val .null, vR t103]) rfl ?_
  refine XS.aloadN X103.here hx rfl (hb hby d3_41) rfl rfl ?_
  refine XS.aload X103.here hx rfl (hb hby d3_42) rfl rfl ?_
  refine XS.iloadN X103.here hx rfl (hb hby d3_44) rfl ?_
  show SS p e below T103 m 45 #[vR a1, vR a2, vI 0, vI (oN cs.length), .val .null, vR t103] [(.int (oN cs.length)), (.ref t103), (.ref a1)] _
  refine st104 _ ?_
  show SS p e below T104 m 48 #[vR a1, vR a2, vI 0, vI (oN cs.length), .val .null, vR t103] [(.int 1), (.ref a1)] _
  refine st108 _ ?_
  refine XS.aloadN X108.here hx rfl (hb hby d3_51) rfl rfl ?_
  refine XS.aload X108.here hx rfl (hb hby d3_52) rfl rfl ?_
  show SS p e below T108 m 54 #[vR a1, vR a2, vI 0, vI (oN cs.length), .val .null, vR t103] [(.ref t103), (.ref a1)] _
  refine st112 _ ?_
  show SS p e below T112 m 57 #[vR a1, vR a2, vI 0, vI (oN cs.length), .val .null, vR t103] [] _
  exact X112.returnOut hx Bd.returns (hb hby d3_57) hr
 ·show Q_rmInit4U Z a1 a2 cs kC dC m1 cs0 h0 n0 _ T112.heap _
  rw [e112]
  exact ⟨_, _, rfl, N112, KC115, C116, Fw112, C117, (by omega), (by omega), C119⟩
theorem d2_0 : DK cD9 0 (.aload_n 0) 1 := by decide +kernel
theorem d2_1 : DK cD9 1 (.aload_n 1) 1 := by decide +kernel
theorem d2_2 : DK cD9 2 (.iconst 0) 1 := by decide +kernel
theorem d2_3 : DK cD9 3 (.aload_n 1) 1 := by decide +kernel
theorem d2_4 : DK cD9 4 (.arraylength) 1 := by decide +kernel
theorem d2_5 : DK cD9 5 (.aconst_null) 1 := by decide +kernel
theorem d2_6 : DK cD9 6 (.invokespecial 27) 3 := by decide +kernel
theorem d2_9 : DK cD9 9 (.return_) 1 := by decide +kernel
theorem pd_2 : parseMethodDescriptor "([CIILjava/lang/Void;)V" = some ⟨[(.array .char), .int, .int, (.object "java/lang/Void")], none⟩ := by decide +kernel
theorem ef_rmInit1U (m : MethodId) (y0 : Addr) (y1 : Addr) : entryFrame m #[(.ref y0), (.ref y1)] 2 = (mkF m 0 #[vR y0, vR y1] []) := by first | (simp [entryFrame, mkF, argsToLocals, Value.category]; done) | rfl
def Q_rmInit1U (Z : State) (a1 : Addr) (a2 : Addr) (cs : List Int32) (kC : ClassId) (dC : Value) (m1 : Nat) (cs0 : Int32) (h0 : Heap) (n0 : Nat) (v : Option Value) (h : Heap) (L : List Loc) : Prop := ∃ (t : Addr) (kb : ClassId), v = none ∧ Fr n0 L ∧ Keep h0 h [a1] ∧ Exa Z h a1 "java/lang/String" ∧ Fld Z h a1 "java/lang/String" "value" "[B" (.ref t) ∧ Fld Z h a1 "java/lang/String" "coder" "B" (.int 1) ∧ h0.size ≤ t ∧ @Ne Nat t a1 ∧ Arv Z h t kb .byte (oN (2 * cs.length)) (u16 cs) (.int 0)
theorem rmInit1U (l : Launch) (Z : State) (a0 : Array Value) (hw : HW a0 Z) (ws : List Jvm.Cond) (a1 : Addr) (a2 : Addr) (cs : List Int32) (kC : ClassId) (dC : Value) (m1 : Nat) (cs0 : Int32) (h0 : Heap) (n0 : Nat) (O0 : Old Z n0 h0) (S_CS : SCS Z cs0) (c_CS : ¬ (cs0 = (0 : Int32))) (S_AD : SAD Z) (S_HI : SHI Z) (S_LO : SLO Z) (V1 : Arv Z h0 a2 kC .char (oN cs.length) (cs.map Value.int) dC) (hn : cs.length ≤ 4) (hcs : ∀ c ∈ cs, ¬ c < 0 ∧ ¬ (65535 : Int32) < c) (hj : m1 < cs.length) (hpre : ∀ j, j < m1 → ¬ ((255 : Int32) < cs.getD j 0)) (hend : (255 : Int32) < (cs.getD m1 0)) (g1 : n0 ≤ a1) (E1 : Exa Z h0 a1 "java/lang/String") (F1 : Fld Z h0 a1 "java/lang/String" "value" "[B" .null) (F2 : Fld Z h0 a1 "java/lang/String" "coder" "B" (.int 0)) (ne12 : @Ne Nat a2 a1) :
  MF l mN9 jdk_42_method_3_code 2 none ws (Rm 5 2 44 150) Z #[(.ref a1), (.ref a2)] h0 (Q_rmInit1U Z a1 a2 cs kC dC m1 cs0 h0 n0) := by
 refine MetFree.of_bodySF (plainFor_of_name pn_2) hisR ?_
 intro p e s m args below meth c s₁ Bd hml0 hP hK
 obtain ⟨rfl, hZ, hh⟩ := hP
 have hx := Bd.exec
 have hby := Bd.bytes
 have hml : c.maxLocals = 2 := hml0
 have hown : s.vm.findClass "java/lang/String" = some m.cls := findClass_of_methodNamed Bd.named
 have X0 : Stand p l e (Rm 5 2 44 150) s m #[(.ref a1), (.ref a2)] below meth c s₁ [] 0 0 := Stand.of_body Bd
 have e0 : s₁.heap = h0 := by rw [← hh, Bd.state]; rfl
 have N0 := Fr.nil n0
 have hn0 : n0 ≤ h0.size := O0.1 ▸ O0.2.1
 have pre0 : ∀ t, SS p e below s₁ m 0 #[vR a1, vR a2] [] t → SE p e below s₁ m #[(.ref a1), (.ref a2)] 2 t := fun t k => castTop (ef_rmInit1U m a1 a2) k
 have hn31 : cs.length < 2 ^ 31 := by omega
 have lt_a1 : @LT.lt Nat _ a1 h0.size := E1.lt
 have lt_a2 : @LT.lt Nat _ a2 h0.size := V1.lt
 obtain ⟨cl101, Ar101, q101, S101, Nn101, H101, G101⟩ := id V1
 obtain ⟨_, _, ⟨T102, L102, k102, n102⟩, -, X102, ⟨Lc102, hQ102, l102, y102, z102⟩, st102⟩ := X0.specialBack hx (y := mN8) rfl hown (mvT hZ (tw hw 12 rfl)) (mvT hZ (tw hw 13 rfl)) (mvT hZ (tw hw 15 rfl)) (by decide) (backOf (W := 0) (rmInit4U l Z a0 hw [] a1 a2 cs kC dC m1 cs0 h0 n0 O0 S_CS c_CS S_AD S_HI S_LO V1 hn hcs hj hpre hend (by omega : @LE.le Nat _ n0 a1) E1 F1 F2 (by omega)) hZ (tw hw 15 rfl) (tw hw 8 rfl) (by decide) (by decide)) (g := (mkF m 6 #[vR a1, vR a2] [.null, (.int (oN cs.length)), (.int 0), (.ref a2), (.ref a1)])) rfl (by rw [hml]; rfl) (Steps.refl _) (a := a1) (argsL := [(.ref a2), (.int 0), (.int (oN cs.length)), .null]) (rest := []) (lenOf pd_2 rfl) rfl (wL _) (hb hby d2_6) (fun _ _ => ⟨rfl, e0, (by decide : 0 + 2 ≤ _), (by decide : 0 + 44 ≤ _)⟩)
 dsimp only [Pt.U, Pt.locs, Pt.cells, Pt.slots] at X102 l102 y102 z102 st102 hQ102
 subst l102 y102 z102
 obtain ⟨t102, kb102, rfl, N102q, K102, E102, Fv102, Fc102, gt102, tx102, V102⟩ := hQ102
 have lt102 : @LT.lt Nat _ t102 T102.heap.size := V102.lt
 have sz1_K102 := K102.1
 have N102 := Fr.app N0 N102q
 have KC103 : Keep h0 T102.heap [a1] := (Keep.refl h0 [a1]).trans K102 (allS (Or.inl (List.mem_of_getElem? (i := 0) rfl)) (all0))
 obtain ⟨fs, hr, hrun, hended, hW, hsame⟩ := X102.leave (v := none) (fun _ => rfl)
 refine ⟨_, _, pre0 _ ?_, hrun, hended, _, _, rfl, ?_, ⟨_, rfl⟩, hW, hsame.mono (by decide) (by decide)⟩
 ·skip
  show SS p e below s₁ m 0 #[vR a1, vR a2] [] _
  refine XS.aloadN X0.here hx rfl (hb hby d2_0) rfl rfl ?_
  refine XS.aloadN X0.here hx rfl (hb hby d2_1) rfl rfl ?_
  refine XS.iconst X0.here hx rfl (hb hby d2_2) ?_
  refine XS.aloadN X0.here hx rfl (hb hby d2_3) rfl rfl ?_
  show SS p e below s₁ m 4 #[vR a1, vR a2] [(.ref a2), (.int 0), (.ref a2), (.ref a1)] _
  refine X0.arraylength hx (by rw [e0]; exact Ar101.1) (State.isArrayOf_alike hZ.alike Ar101.2.1) (g := (mkF m 4 #[vR a1, vR a2] [(.ref a2), (.int 0), (.ref a2), (.ref a1)])) rfl rfl (hb hby d2_4) _ ?_
  rw [len_of S101 Nn101]
  refine XS.aconstNull X0.here hx rfl (hb hby d2_5) ?_
  show SS p e below s₁ m 6 #[vR a1, vR a2] [.null, (.int (oN cs.length)), (.int 0), (.ref a2), (.ref a1)] _
  refine st102.trans ?_
  show SS p e below T102 m 9 #[vR a1, vR a2] [] _
  exact X102.returnOut hx Bd.returns (hb hby d2_9) hr
 ·show Q_rmInit1U Z a1 a2 cs kC dC m1 cs0 h0 n0 _ T102.heap _
  exact ⟨_, _, rfl, N102, KC103, E102, Fv102, Fc102, (by omega), (by omega), V102⟩
theorem d3_8 : DK cD8 8 (.aload_n 0) 1 := by decide +kernel
theorem d3_9 : DK cD8 9 (.ldc 7) 2 := by decide +kernel
theorem d3_11 : DK cD8 11 (.getfield 9) 3 := by decide +kernel
theorem d3_14 : DK cD8 14 (.putfield 9) 3 := by decide +kernel
theorem d3_17 : DK cD8 17 (.aload_n 0) 1 := by decide +kernel
theorem d3_18 : DK cD8 18 (.ldc 7) 2 := by decide +kernel
theorem d3_20 : DK cD8 20 (.getfield 15) 3 := by decide +kernel
theorem d3_23 : DK cD8 23 (.putfield 15) 3 := by decide +kernel
theorem d3_26 : DK cD8 26 (.return_) 1 := by decide +kernel
theorem ef_rmInit4Z (m : MethodId) (y0 : Addr) (y1 : Addr) : entryFrame m #[(.ref y0), (.ref y1), (.int 0), (.int 0), .null] 6 = (mkF m 0 #[vR y0, vR y1, vI 0, vI 0, .val .null, .unset] []) := by first | (simp [entryFrame, mkF, argsToLocals, Value.category]; done) | rfl
def Q_rmInit4Z (Z : State) (a1 : Addr) (a2 : Addr) (h0 : Heap) (n0 : Nat) (v : Option Value) (h : Heap) (L : List Loc) : Prop := ∃ (t : Addr) (kb : ClassId), v = none ∧ Fr n0 L ∧ Keep h0 h [a1] ∧ Exa Z h a1 "java/lang/String" ∧ Fld Z h a1 "java/lang/String" "value" "[B" (.ref t) ∧ Fld Z h a1 "java/lang/String" "coder" "B" (.int 0) ∧ @Ne Nat t a1 ∧ Arv Z h t kb .byte (oN ([] : List Int32).length) (([] : List Int32).map Value.int) (.int 0)
theorem rmInit4Z (l : Launch) (Z : State) (a0 : Array Value) (hw : HW a0 Z) (ws : List Jvm.Cond) (a1 : Addr) (a2 : Addr) (h0 : Heap) (n0 : Nat) (O0 : Old Z n0 h0) (g1 : n0 ≤ a1) (E1 : Exa Z h0 a1 "java/lang/String") (F1 : Fld Z h0 a1 "java/lang/String" "value" "[B" .null) (F2 : Fld Z h0 a1 "java/lang/String" "coder" "B" (.int 0)) :
  MetFree l mN8 (head1 (Jvm.Cond.code mN8 jdk_42_method_149_code 6 none :: ws) (Rm 1 2 4 20)) (fun a U => a = #[(.ref a1), (.ref a2), (.int 0), (.int 0), .null] ∧ Z.Warmed39 U.vm ∧ U.heap = h0 ∧ CHv Z EL1 U.vm h0) (fun _ _ _ _ _ => True) (fun _ U o U' => ∃ v L, o = .returned v ∧ Q_rmInit4Z Z a1 a2 h0 n0 v U'.heap L ∧ ReturnedEndW U o U' L (Rm 1 2 4 20).cells (Rm 1 2 4 20).slots) := by
 refine MetFree.of_bodySF (plainFor_of_name pn_2) hisR ?_
 intro p e s m args below meth c s₁ Bd hml0 hP hK
 obtain ⟨rfl, hZ, hh, hCH⟩ := hP
 have hx := Bd.exec
 have hby := Bd.bytes
 have hml : c.maxLocals = 6 := hml0
 have hown : s.vm.findClass "java/lang/String" = some m.cls := findClass_of_methodNamed Bd.named
 have hnm := (name_of_methodNamed Bd.named Bd.method).1
 have X0 : Stand p l e (Rm 1 2 4 20) s m #[(.ref a1), (.ref a2), (.int 0), (.int 0), .null] below meth c s₁ [] 0 0 := Stand.of_body Bd
 have e0 : s₁.heap = h0 := by rw [← hh, Bd.state]; rfl
 have N0 := Fr.nil n0
 have hn0 : n0 ≤ h0.size := O0.1 ▸ O0.2.1
 have hS0 : s.Since s.vm h0.size := (State.WarmedH.refl s).since _
 have pre0 : ∀ t, SS p e below s₁ m 0 #[vR a1, vR a2, vI 0, vI 0, .val .null, .unset] [] t → SE p e below s₁ m #[(.ref a1), (.ref a2), (.int 0), (.int 0), .null] 6 t := fun t k => castTop (ef_rmInit4Z m a1 a2) k
 have wStr : ∀ d ∈ Bundle.stringAtoms, d.before a0 Z = true := fun d hd => hw d ((by decide +kernel : ∀ d ∈ Bundle.stringAtoms, d ∈ tables_1) d hd)
 have hEW : EW Z a0 EL1 := EW.cons (tw hw 19 rfl) (by decide) EW.nil
 have lt_a1 : @LT.lt Nat _ a1 h0.size := E1.lt
 obtain ⟨T101, X101, e101, st101⟩ := initO X0 hx hZ hown (tw hw 16 rfl) (tw hw 17 rfl) (tw hw 18 rfl) e0 (g := (mkF m 1 #[vR a1, vR a2, vI 0, vI 0, .val .null, .unset] [(.ref a1)])) rfl (by rw [hml]; rfl) rfl (hb hby d3_1) (by decide) (W := 0) (wL _) (by decide)
 obtain ⟨b102, T102, h102, k102, t102, kb102, X102, e102, E102, hS102, hk102, hZ102, hown102, Ea102, Fc102, Fv102, Av102, la102, lb102, CR102, Li102, nq102, st102⟩ := ldcCH (s := s) (vm0 := s.vm) X101 hx hZ hown (tw hw 19 rfl) wStr e101 hS0 (by omega) hEW (by simp [EL1]) hCH (vs := (([] : List Int32).map Value.int)) (z := (oN ([] : List Int32).length)) ⟨by decide, by decide⟩ (by decide) (by decide) (g := (mkF m 9 #[vR a1, vR a2, vI 0, vI 0, .val .null, .unset] [(.ref a1)])) rfl (hb hby d3_9) (n := 0) (by decide) (by decide) (by decide) (by decide)
 have lta102 : @LT.lt Nat _ b102 h102.size := la102
 have ltb102 : @LT.lt Nat _ t102 h102.size := lb102
 have K102 : Keep h0 h102 [] := (Keep.refl _ _).ext E102
 have sz1_K102 := K102.1
 have C103 := F1.keep K102 nin0
 have nea102 : @Ne Nat b102 a1 := Fld.ne Fv102 C103 (by simp)
 have C104 := E1.keep K102
 have net102 : @Ne Nat t102 a1 := Ne.symm (Exa.neArv C104 Av102 (tw hw 7 rfl))
 obtain ⟨T105, X105, e105, st105⟩ := getF X102 hx hZ102 hown102 (host := "") (Or.inl (tw hw 25 rfl)) Via.refl e102 Fv102 (g := (mkF m 11 #[vR a1, vR a2, vI 0, vI 0, .val .null, .unset] [(.ref b102), (.ref a1)])) rfl rfl (hb hby d3_11)
 obtain ⟨T106, h106, X106, e106, W106, st106⟩ := putF X105 hx hZ102 hown102 (host := "") (Or.inl (tw hw 25 rfl)) Via.refl e105 C103 C104 (Or.inr ⟨(tw hw 21 rfl), rfl, hnm⟩) (tw hw 7 rfl) (ty := (.array .byte)) (by decide) rfl rfl (g := (mkF m 14 #[vR a1, vR a2, vI 0, vI 0, .val .null, .unset] [(.ref t102), (.ref a1)])) rfl rfl (hb hby d3_14)
 have K106 := Keep.of_wr W106
 have Fw106 := Fld.same W106 C103
 have N106 := Fr.snoc X106 N0 (by omega : @LE.le Nat _ n0 a1)
 have sz2_K106 := K106.1
 have C108 := Fc102.keep K106 (ninS (by omega : @Ne Nat b102 a1) (nin0))
 obtain ⟨T109, X109, e109, st109⟩ := getF X106 hx hZ102 hown102 (host := "") (Or.inl (tw hw 26 rfl)) Via.refl e106 C108 (g := (mkF m 20 #[vR a1, vR a2, vI 0, vI 0, .val .null, .unset] [(.ref b102), (.ref a1)])) rfl rfl (hb hby d3_20)
 have C110 := C104.keep K106
 have C111 := F2.keep K102 nin0
 have C112 := Fld.other W106 C111 (Or.inr (slot_ne (Or.inr (tw hw 22 rfl)) (Or.inr (tw hw 21 rfl)) (by decide) (t := .byte) (t' := (.array .byte)) (by decide) (by decide)))
 obtain ⟨T113, h113, X113, e113, W113, st113⟩ := putFN X109 hx hZ102 hown102 (tw hw 26 rfl) Via.refl e109 C112 C110 (Or.inr ⟨(tw hw 22 rfl), rfl, hnm⟩) (tw hw 7 rfl) (ty := .byte) (v' := (.int 0)) (by decide) rfl rfl (g := (mkF m 23 #[vR a1, vR a2, vI 0, vI 0, .val .null, .unset] [(.int 0), (.ref a1)])) rfl rfl (hb hby d3_23)
 have K113 := Keep.of_wr W113
 have Fw113 := Fld.same W113 C112
 have N113 := Fr.snoc X113 N106 (by omega : @LE.le Nat _ n0 a1)
 have sz3_K113 := K113.1
 have KC114 : Keep h0 h102 [a1] := (Keep.refl h0 [a1]).trans K102 (all0)
 have KC115 : Keep h0 h106 [a1] := KC114.trans K106 (allS (Or.inl (List.mem_of_getElem? (i := 0) rfl)) (all0))
 have KC116 : Keep h0 h113 [a1] := KC115.trans K113 (allS (Or.inl (List.mem_of_getElem? (i := 0) rfl)) (all0))
 have C117 := C110.keep K113
 have C118 := Fld.other W113 Fw106 (Or.inr (slot_ne (Or.inr (tw hw 21 rfl)) (Or.inr (tw hw 22 rfl)) (by decide) (t := (.array .byte)) (t' := .byte) (by decide) (by decide)))
 have KD119 : Keep h102 h113 [a1] := ((Keep.refl _ _).trans K106 (allS (Or.inl (List.mem_of_getElem? (i := 0) rfl)) (all0))).trans K113 (allS (Or.inl (List.mem_of_getElem? (i := 0) rfl)) (all0))
 have C120 := Av102.keep KD119 (ninS (by omega : @Ne Nat t102 a1) (nin0))
 obtain ⟨fs, hr, hrun, hended, eR, eW, eI, eS⟩ := Stand.leaveW (s := s) (vm₁ := T102.vm) X113 hS102 (by rw [e113]; omega) (v := none) (fun _ => rfl)
 refine ⟨_, _, pre0 _ ?_, hrun, hended, _, _, rfl, ?_, eR, eW, eI, eS.mono (by decide) (by decide)⟩
 ·skip
  show SS p e below s₁ m 0 #[vR a1, vR a2, vI 0, vI 0, .val .null, .unset] [] _
  refine XS.aloadN X0.here hx rfl (hb hby d3_0) rfl rfl ?_
  show SS p e below s₁ m 1 #[vR a1, vR a2, vI 0, vI 0, .val .null, .unset] [(.ref a1)] _
  refine st101 _ ?_
  refine XS.iloadN X101.here hx rfl (hb hby d3_4) rfl ?_
  refine XS.ifNo X101.here hx rfl (hb hby d3_5) rfl ((if0 _ _).trans (teq (by decide : (0 : Int32) = (0 : Int32))).2) ?_
  refine XS.aloadN X101.here hx rfl (hb hby d3_8) rfl rfl ?_
  show SS p e below T101 m 9 #[vR a1, vR a2, vI 0, vI 0, .val .null, .unset] [(.ref a1)] _
  refine st102 _ ?_
  show SS p e below T102 m 11 #[vR a1, vR a2, vI 0, vI 0, .val .null, .unset] [(.ref b102), (.ref a1)] _
  refine st105 _ ?_
  show SS p e below T105 m 14 #[vR a1, vR a2, vI 0, vI 0, .val .null, .unset] [(.ref t102), (.ref a1)] _
  refine st106 _ ?_
  refine XS.aloadN X106.here hx rfl (hb hby d3_17) rfl rfl ?_
  show SS p e below T106 m 18 #[vR a1, vR a2, vI 0, vI 0, .val .null, .unset] [(.ref a1)] _
  refine ldcAgain (s := s) (vm0 := T102.vm) X106 hx hZ102 hown102 (tw hw 19 rfl) Li102 (g := (mkF m 18 #[vR a1, vR a2, vI 0, vI 0, .val .null, .unset] [(.ref a1)])) rfl (hb hby d3_18) _ ?_
  show SS p e below T106 m 20 #[vR a1, vR a2, vI 0, vI 0, .val .null, .unset] [(.ref b102), (.ref a1)] _
  refine st109 _ ?_
  show SS p e below T109 m 23 #[vR a1, vR a2, vI 0, vI 0, .val .null, .unset] [(.int 0), (.ref a1)] _
  refine st113 _ ?_
  show SS p e below T113 m 26 #[vR a1, vR a2, vI 0, vI 0, .val .null, .unset] [] _
  exact X113.returnOut hx Bd.returns (hb hby d3_26) hr
 ·show Q_rmInit4Z Z a1 a2 h0 n0 _ T113.heap _
  rw [e113]
  exact ⟨_, _, rfl, N113, KC116, C117, C118, Fw113, (by omega), C120⟩
theorem ef_rmInit1Z (m : MethodId) (y0 : Addr) (y1 : Addr) : entryFrame m #[(.ref y0), (.ref y1)] 2 = (mkF m 0 #[vR y0, vR y1] []) := by first | (simp [entryFrame, mkF, argsToLocals, Value.category]; done) | rfl
def Q_rmInit1Z (Z : State) (a1 : Addr) (a2 : Addr) (kC : ClassId) (vC : List Value) (dC : Value) (h0 : Heap) (n0 : Nat) (v : Option Value) (h : Heap) (L : List Loc) : Prop := ∃ (t : Addr) (kb : ClassId), v = none ∧ Fr n0 L ∧ Keep h0 h [a1] ∧ Exa Z h a1 "java/lang/String" ∧ Fld Z h a1 "java/lang/String" "value" "[B" (.ref t) ∧ Fld Z h a1 "java/lang/String" "coder" "B" (.int 0) ∧ @Ne Nat t a1 ∧ Arv Z h t kb .byte (oN ([] : List Int32).length) (([] : List Int32).map Value.int) (.int 0)
theorem rmInit1Z (l : Launch) (Z : State) (a0 : Array Value) (hw : HW a0 Z) (ws : List Jvm.Cond) (a1 : Addr) (a2 : Addr) (kC : ClassId) (vC : List Value) (dC : Value) (h0 : Heap) (n0 : Nat) (O0 : Old Z n0 h0) (g1 : n0 ≤ a1) (E1 : Exa Z h0 a1 "java/lang/String") (F1 : Fld Z h0 a1 "java/lang/String" "value" "[B" .null) (F2 : Fld Z h0 a1 "java/lang/String" "coder" "B" (.int 0)) (V2 : Arv Z h0 a2 kC .char (0 : Int32) vC dC) :
  MetFree l mN9 (head1 (Jvm.Cond.code mN9 jdk_42_method_3_code 2 none :: ws) (Rm 2 2 4 50)) (fun a U => a = #[(.ref a1), (.ref a2)] ∧ Z.Warmed39 U.vm ∧ U.heap = h0 ∧ CHv Z EL1 U.vm h0) (fun _ _ _ _ _ => True) (fun _ U o U' => ∃ v L, o = .returned v ∧ Q_rmInit1Z Z a1 a2 kC vC dC h0 n0 v U'.heap L ∧ ReturnedEndW U o U' L (Rm 2 2 4 50).cells (Rm 2 2 4 50).slots) := by
 refine MetFree.of_bodySF (plainFor_of_name pn_2) hisR ?_
 intro p e s m args below meth c s₁ Bd hml0 hP hK
 obtain ⟨rfl, hZ, hh, hCH⟩ := hP
 have hx := Bd.exec
 have hby := Bd.bytes
 have hml : c.maxLocals = 2 := hml0
 have hown : s.vm.findClass "java/lang/String" = some m.cls := findClass_of_methodNamed Bd.named
 have X0 : Stand p l e (Rm 2 2 4 50) s m #[(.ref a1), (.ref a2)] below meth c s₁ [] 0 0 := Stand.of_body Bd
 have e0 : s₁.heap = h0 := by rw [← hh, Bd.state]; rfl
 have N0 := Fr.nil n0
 have hn0 : n0 ≤ h0.size := O0.1 ▸ O0.2.1
 have hS0 : s.Since s.vm h0.size := (State.WarmedH.refl s).since _
 have pre0 : ∀ t, SS p e below s₁ m 0 #[vR a1, vR a2] [] t → SE p e below s₁ m #[(.ref a1), (.ref a2)] 2 t := fun t k => castTop (ef_rmInit1Z m a1 a2) k
 have wStr : ∀ d ∈ Bundle.stringAtoms, d.before a0 Z = true := fun d hd => hw d ((by decide +kernel : ∀ d ∈ Bundle.stringAtoms, d ∈ tables_1) d hd)
 have hEW : EW Z a0 EL1 := EW.cons (tw hw 19 rfl) (by decide) EW.nil
 have lt_a1 : @LT.lt Nat _ a1 h0.size := E1.lt
 obtain ⟨cl101, Ar101, q101, S101, Nn101, H101, G101⟩ := id V2
 obtain ⟨_, _, ⟨T102, L102, k102, n102⟩, -, X102q, hSq102, hgr102, ⟨Lc102, hQ102, l102, y102, z102⟩, st102⟩ := X0.specialBackS hx (y := mN8) rfl hown (mvT hZ (tw hw 12 rfl)) (mvT hZ (tw hw 13 rfl)) (mvT hZ (tw hw 15 rfl)) (by decide) (own_backH (s := s) (vm0 := s.vm) (EL := EL1) (W := 0) (rmInit4Z l Z a0 hw [] a1 a2  h0 n0 O0 (by omega : @LE.le Nat _ n0 a1) E1 F1 F2) hZ (tw hw 15 rfl) (tw hw 8 rfl) (by decide) (by decide) hEW hCH) (g := (mkF m 6 #[vR a1, vR a2] [.null, (.int 0), (.int 0), (.ref a2), (.ref a1)])) rfl (by rw [hml]; rfl) (Steps.refl _) (a := a1) (argsL := [(.ref a2), (.int 0), (.int 0), .null]) (rest := []) (lenOf pd_2 rfl) rfl (wL _) (hb hby d2_6) (fun _ _ => ⟨rfl, e0, (by decide : 0 + 2 ≤ _), (by decide : 0 + 4 ≤ _)⟩)
 dsimp only [Pt.U, Pt.locs, Pt.cells, Pt.slots] at X102q l102 y102 z102 st102 hQ102 hSq102 hgr102
 subst l102 y102 z102
 obtain ⟨X102, hS102, hZ102, hown102⟩ := rebS (s := s) (vm0 := s.vm) hS0 (by rw [e0]; omega) X102q hSq102 hgr102 hZ hown
 obtain ⟨t102, kb102, rfl, N102q, K102, E102, Fv102, Fc102, tx102, V102⟩ := hQ102
 have lt102 : @LT.lt Nat _ t102 T102.heap.size := V102.lt
 have sz1_K102 := K102.1
 have N102 := Fr.app N0 N102q
 have KC103 : Keep h0 T102.heap [a1] := (Keep.refl h0 [a1]).trans K102 (allS (Or.inl (List.mem_of_getElem? (i := 0) rfl)) (all0))
 obtain ⟨fs, hr, hrun, hended, eR, eW, eI, eS⟩ := Stand.leaveW (s := s) (vm₁ := T102.vm) X102 hS102 (by omega) (v := none) (fun _ => rfl)
 refine ⟨_, _, pre0 _ ?_, hrun, hended, _, _, rfl, ?_, eR, eW, eI, eS.mono (by decide) (by decide)⟩
 ·skip
  show SS p e below s₁ m 0 #[vR a1, vR a2] [] _
  refine XS.aloadN X0.here hx rfl (hb hby d2_0) rfl rfl ?_
  refine XS.aloadN X0.here hx rfl (hb hby d2_1) rfl rfl ?_
  refine XS.iconst X0.here hx rfl (hb hby d2_2) ?_
  refine XS.aloadN X0.here hx rfl (hb hby d2_3) rfl rfl ?_
  show SS p e below s₁ m 4 #[vR a1, vR a2] [(.ref a2), (.int 0), (.ref a2), (.ref a1)] _
  refine X0.arraylength hx (by rw [e0]; exact Ar101.1) (State.isArrayOf_alike hZ.alike Ar101.2.1) (g := (mkF m 4 #[vR a1, vR a2] [(.ref a2), (.int 0), (.ref a2), (.ref a1)])) rfl rfl (hb hby d2_4) _ ?_
  rw [len_of S101 Nn101]
  refine XS.aconstNull X0.here hx rfl (hb hby d2_5) ?_
  show SS p e below s₁ m 6 #[vR a1, vR a2] [.null, (.int 0), (.int 0), (.ref a2), (.ref a1)] _
  refine st102.trans ?_
  show SS p e below T102 m 9 #[vR a1, vR a2] [] _
  exact X102.returnOut hx Bd.returns (hb hby d2_9) hr
 ·show Q_rmInit1Z Z a1 a2 kC vC dC h0 n0 _ T102.heap _
  exact ⟨_, _, rfl, N102, KC103, E102, Fv102, Fc102, (by omega), V102⟩
theorem d9_0 : DK cD10 0 (.getstatic 38) 3 := by decide +kernel
theorem d9_3 : DK cD10 3 (.ifCond .eq 10) 3 := by decide +kernel
theorem d9_6 : DK cD10 6 (.aload_n 0) 1 := by decide +kernel
theorem d9_7 : DK cD10 7 (.getfield 15) 3 := by decide +kernel
theorem d9_10 : DK cD10 10 (.goto 4) 3 := by decide +kernel
theorem d9_14 : DK cD10 14 (.ireturn) 1 := by decide +kernel
theorem ef_rmCoderL (m : MethodId) (y0 : Addr) : entryFrame m #[(.ref y0)] 1 = (mkF m 0 #[vR y0] []) := by first | (simp [entryFrame, mkF, argsToLocals, Value.category]; done) | rfl
def Q_rmCoderL (Z : State) (a1 : Addr) (bs : List Int32) (t1 : Addr) (k1 : ClassId) (cs0 : Int32) (h0 : Heap) (n0 : Nat) (v : Option Value) (h : Heap) (L : List Loc) : Prop := v = some (.int 0) ∧ Fr n0 L ∧ h = h0
theorem rmCoderL (l : Launch) (Z : State) (a0 : Array Value) (hw : HW a0 Z) (ws : List Jvm.Cond) (a1 : Addr) (bs : List Int32) (t1 : Addr) (k1 : ClassId) (cs0 : Int32) (h0 : Heap) (n0 : Nat) (O0 : Old Z n0 h0) (S_CS : SCS Z cs0) (c_CS : ¬ (cs0 = (0 : Int32))) (E1 : Exa Z h0 a1 "java/lang/String") (F1 : Fld Z h0 a1 "java/lang/String" "value" "[B" (.ref t1)) (F2 : Fld Z h0 a1 "java/lang/String" "coder" "B" (.int 0)) (V1 : Arv Z h0 t1 k1 .byte (oN bs.length) (bs.map Value.int) (.int 0)) (hn : bs.length ≤ 4) :
  MF l mN10 jdk_42_method_152_code 1 (some .byte) ws (Rm 0 0 0 0) Z #[(.ref a1)] h0 (Q_rmCoderL Z a1 bs t1 k1 cs0 h0 n0) := by
 refine MetFree.of_bodySF (plainFor_of_name pn_2) hisR ?_
 intro p e s m args below meth c s₁ Bd hml0 hP hK
 obtain ⟨rfl, hZ, hh⟩ := hP
 have hx := Bd.exec
 have hby := Bd.bytes
 have hml : c.maxLocals = 1 := hml0
 have hown : s.vm.findClass "java/lang/String" = some m.cls := findClass_of_methodNamed Bd.named
 have X0 : Stand p l e (Rm 0 0 0 0) s m #[(.ref a1)] below meth c s₁ [] 0 0 := Stand.of_body Bd
 have e0 : s₁.heap = h0 := by rw [← hh, Bd.state]; rfl
 have N0 := Fr.nil n0
 have hn0 : n0 ≤ h0.size := O0.1 ▸ O0.2.1
 have pre0 : ∀ t, SS p e below s₁ m 0 #[vR a1] [] t → SE p e below s₁ m #[(.ref a1)] 1 t := fun t k => castTop (ef_rmCoderL m a1) k
 obtain ⟨T101, X101, e101, st101⟩ := getS2 X0 hx hZ hown (host := "") (Or.inl (tw hw 54 rfl)) Via.refl e0 (Sta.ext O0.2 S_CS) (g := (mkF m 0 #[vR a1] [])) rfl (hb hby d9_0)
 obtain ⟨T102, X102, e102, st102⟩ := getF X101 hx hZ hown (host := "") (Or.inl (tw hw 26 rfl)) Via.refl e101 F2 (g := (mkF m 7 #[vR a1] [(.ref a1)])) rfl rfl (hb hby d9_7)
 obtain ⟨fs, hr, hrun, hended, hW, hsame⟩ := X102.leave (v := some (.int 0)) (nvr Bd.returns)
 refine ⟨_, _, pre0 _ ?_, hrun, hended, _, _, rfl, ?_, ⟨_, rfl⟩, hW, hsame.mono (by decide) (by decide)⟩
 ·skip
  show SS p e below s₁ m 0 #[vR a1] [] _
  refine st101 _ ?_
  refine XS.ifNo X101.here hx rfl (hb hby d9_3) rfl ((if0 _ _).trans (feq (c_CS : ¬ (cs0 = (0 : Int32)))).1) ?_
  refine XS.aloadN X101.here hx rfl (hb hby d9_6) rfl rfl ?_
  show SS p e below T101 m 7 #[vR a1] [(.ref a1)] _
  refine st102 _ ?_
  refine XS.goto X102.here hx rfl (pc0 := 10) (pc' := 14) rfl (hb hby d9_10) (by decide) (by decide) ?_
  show SS p e below T102 m 14 #[vR a1] [(.int 0)] _
  exact retN X102 hx (t := .byte) Bd.returns (by simp) (hb hby d9_14) hr
 ·show Q_rmCoderL Z a1 bs t1 k1 cs0 h0 n0 _ T102.heap _
  rw [e102]
  exact ⟨rfl, N0, rfl⟩
theorem d42_0 : DK cD11 0 (.getstatic 38) 3 := by decide +kernel
theorem d42_3 : DK cD11 3 (.ifCond .eq 14) 3 := by decide +kernel
theorem d42_6 : DK cD11 6 (.aload_n 0) 1 := by decide +kernel
theorem d42_7 : DK cD11 7 (.getfield 15) 3 := by decide +kernel
theorem d42_10 : DK cD11 10 (.ifCond .ne 7) 3 := by decide +kernel
theorem d42_13 : DK cD11 13 (.iconst 1) 1 := by decide +kernel
theorem d42_14 : DK cD11 14 (.goto 4) 3 := by decide +kernel
theorem d42_18 : DK cD11 18 (.ireturn) 1 := by decide +kernel
theorem ef_rmIsLatL (m : MethodId) (y0 : Addr) : entryFrame m #[(.ref y0)] 1 = (mkF m 0 #[vR y0] []) := by first | (simp [entryFrame, mkF, argsToLocals, Value.category]; done) | rfl
def Q_rmIsLatL (Z : State) (a1 : Addr) (bs : List Int32) (t1 : Addr) (k1 : ClassId) (cs0 : Int32) (h0 : Heap) (n0 : Nat) (v : Option Value) (h : Heap) (L : List Loc) : Prop := v = some (.int 1) ∧ Fr n0 L ∧ h = h0
theorem rmIsLatL (l : Launch) (Z : State) (a0 : Array Value) (hw : HW a0 Z) (ws : List Jvm.Cond) (a1 : Addr) (bs : List Int32) (t1 : Addr) (k1 : ClassId) (cs0 : Int32) (h0 : Heap) (n0 : Nat) (O0 : Old Z n0 h0) (S_CS : SCS Z cs0) (c_CS : ¬ (cs0 = (0 : Int32))) (E1 : Exa Z h0 a1 "java/lang/String") (F1 : Fld Z h0 a1 "java/lang/String" "value" "[B" (.ref t1)) (F2 : Fld Z h0 a1 "java/lang/String" "coder" "B" (.int 0)) (V1 : Arv Z h0 t1 k1 .byte (oN bs.length) (bs.map Value.int) (.int 0)) (hn : bs.length ≤ 4) :
  MF l mN11 jdk_42_method_154_code 1 (some .boolean) ws (Rm 0 0 0 0) Z #[(.ref a1)] h0 (Q_rmIsLatL Z a1 bs t1 k1 cs0 h0 n0) := by
 refine MetFree.of_bodySF (plainFor_of_name pn_2) hisR ?_
 intro p e s m args below meth c s₁ Bd hml0 hP hK
 obtain ⟨rfl, hZ, hh⟩ := hP
 have hx := Bd.exec
 have hby := Bd.bytes
 have hml : c.maxLocals = 1 := hml0
 have hown : s.vm.findClass "java/lang/String" = some m.cls := findClass_of_methodNamed Bd.named
 have X0 : Stand p l e (Rm 0 0 0 0) s m #[(.ref a1)] below meth c s₁ [] 0 0 := Stand.of_body Bd
 have e0 : s₁.heap = h0 := by rw [← hh, Bd.state]; rfl
 have N0 := Fr.nil n0
 have hn0 : n0 ≤ h0.size := O0.1 ▸ O0.2.1
 have pre0 : ∀ t, SS p e below s₁ m 0 #[vR a1] [] t → SE p e below s₁ m #[(.ref a1)] 1 t := fun t k => castTop (ef_rmIsLatL m a1) k
 obtain ⟨T101, X101, e101, st101⟩ := getS2 X0 hx hZ hown (host := "") (Or.inl (tw hw 54 rfl)) Via.refl e0 (Sta.ext O0.2 S_CS) (g := (mkF m 0 #[vR a1] [])) rfl (hb hby d42_0)
 obtain ⟨T102, X102, e102, st102⟩ := getF X101 hx hZ hown (host := "") (Or.inl (tw hw 26 rfl)) Via.refl e101 F2 (g := (mkF m 7 #[vR a1] [(.ref a1)])) rfl rfl (hb hby d42_7)
 obtain ⟨fs, hr, hrun, hended, hW, hsame⟩ := X102.leave (v := some (.int 1)) (nvr Bd.returns)
 refine ⟨_, _, pre0 _ ?_, hrun, hended, _, _, rfl, ?_, ⟨_, rfl⟩, hW, hsame.mono (by decide) (by decide)⟩
 ·skip
  show SS p e below s₁ m 0 #[vR a1] [] _
  refine st101 _ ?_
  refine XS.ifNo X101.here hx rfl (hb hby d42_3) rfl ((if0 _ _).trans (feq (c_CS : ¬ (cs0 = (0 : Int32)))).1) ?_
  refine XS.aloadN X101.here hx rfl (hb hby d42_6) rfl rfl ?_
  show SS p e below T101 m 7 #[vR a1] [(.ref a1)] _
  refine st102 _ ?_
  refine XS.ifNo X102.here hx rfl (hb hby d42_10) rfl ((if0 _ _).trans (teq (by decide : (0 : Int32) = (0 : Int32))).2) ?_
  refine XS.iconst X102.here hx rfl (hb hby d42_13) ?_
  refine XS.goto X102.here hx rfl (pc0 := 14) (pc' := 18) rfl (hb hby d42_14) (by decide) (by decide) ?_
  show SS p e below T102 m 18 #[vR a1] [(.int 1)] _
  exact retN X102 hx (t := .boolean) Bd.returns (by simp) (hb hby d42_18) hr
 ·show Q_rmIsLatL Z a1 bs t1 k1 cs0 h0 n0 _ T102.heap _
  rw [e102]
  exact ⟨rfl, N0, rfl⟩
theorem d8_0 : DK cD12 0 (.aload_n 0) 1 := by decide +kernel
theorem d8_1 : DK cD12 1 (.getfield 9) 3 := by decide +kernel
theorem d8_4 : DK cD12 4 (.arraylength) 1 := by decide +kernel
theorem d8_5 : DK cD12 5 (.aload_n 0) 1 := by decide +kernel
theorem d8_6 : DK cD12 6 (.invokevirtual 335) 3 := by decide +kernel
theorem d8_9 : DK cD12 9 (.ishr) 1 := by decide +kernel
theorem d8_10 : DK cD12 10 (.ireturn) 1 := by decide +kernel
theorem pd_7 : parseMethodDescriptor "()B" = some ⟨[], some .byte⟩ := by decide +kernel
theorem ef_rmLenL (m : MethodId) (y0 : Addr) : entryFrame m #[(.ref y0)] 1 = (mkF m 0 #[vR y0] []) := by first | (simp [entryFrame, mkF, argsToLocals, Value.category]; done) | rfl
def Q_rmLenL (Z : State) (a1 : Addr) (bs : List Int32) (t1 : Addr) (k1 : ClassId) (cs0 : Int32) (h0 : Heap) (n0 : Nat) (v : Option Value) (h : Heap) (L : List Loc) : Prop := v = some (.int (oN bs.length)) ∧ Fr n0 L ∧ h = h0
theorem rmLenL (l : Launch) (Z : State) (a0 : Array Value) (hw : HW a0 Z) (ws : List Jvm.Cond) (a1 : Addr) (bs : List Int32) (t1 : Addr) (k1 : ClassId) (cs0 : Int32) (h0 : Heap) (n0 : Nat) (O0 : Old Z n0 h0) (S_CS : SCS Z cs0) (c_CS : ¬ (cs0 = (0 : Int32))) (E1 : Exa Z h0 a1 "java/lang/String") (F1 : Fld Z h0 a1 "java/lang/String" "value" "[B" (.ref t1)) (F2 : Fld Z h0 a1 "java/lang/String" "coder" "B" (.int 0)) (V1 : Arv Z h0 t1 k1 .byte (oN bs.length) (bs.map Value.int) (.int 0)) (hn : bs.length ≤ 4) :
  MF l mN12 jdk_42_method_54_code 1 (some .int) ws (Rm 1 0 0 20) Z #[(.ref a1)] h0 (Q_rmLenL Z a1 bs t1 k1 cs0 h0 n0) := by
 refine MetFree.of_bodySF (plainFor_of_name pn_2) hisR ?_
 intro p e s m args below meth c s₁ Bd hml0 hP hK
 obtain ⟨rfl, hZ, hh⟩ := hP
 have hx := Bd.exec
 have hby := Bd.bytes
 have hml : c.maxLocals = 1 := hml0
 have hown : s.vm.findClass "java/lang/String" = some m.cls := findClass_of_methodNamed Bd.named
 have X0 : Stand p l e (Rm 1 0 0 20) s m #[(.ref a1)] below meth c s₁ [] 0 0 := Stand.of_body Bd
 have e0 : s₁.heap = h0 := by rw [← hh, Bd.state]; rfl
 have N0 := Fr.nil n0
 have hn0 : n0 ≤ h0.size := O0.1 ▸ O0.2.1
 have pre0 : ∀ t, SS p e below s₁ m 0 #[vR a1] [] t → SE p e below s₁ m #[(.ref a1)] 1 t := fun t k => castTop (ef_rmLenL m a1) k
 obtain ⟨T101, X101, e101, st101⟩ := getF X0 hx hZ hown (host := "") (Or.inl (tw hw 25 rfl)) Via.refl e0 F1 (g := (mkF m 1 #[vR a1] [(.ref a1)])) rfl rfl (hb hby d8_1)
 obtain ⟨cl102, Ar102, q102, S102, Nn102, H102, G102⟩ := id V1
 obtain ⟨cq103, kq103, q103a, q103b, q103c⟩ := isOf hZ e101 E1
 obtain ⟨_, _, ⟨T103, L103, k103, n103⟩, -, X103, ⟨Lc103, hQ103, l103, y103, z103⟩, st103⟩ := X101.virtualBack hx (y := mN10) (z := mN10) hown (mvT hZ (tw hw 49 rfl)) (mvT hZ (tw hw 50 rfl)) (notFace_of_selects (args := #[]) (mvT hZ (tw hw 52 rfl))) (mvT hZ (tw hw 52 rfl)) (mvT hZ (tw hw 51 rfl)) (by decide) (backOf (W := 1) (rmCoderL l Z a0 hw [] a1 bs t1 k1 cs0 h0 n0 O0 S_CS c_CS E1 F1 F2 V1 hn) hZ (tw hw 53 rfl) (tw hw 8 rfl) (by decide) (by decide)) q103a q103c (g := (mkF m 6 #[vR a1] [(.ref a1), (.int (oN bs.length))])) rfl (by rw [hml]; rfl) (Steps.refl _) (argsL := []) (rest := [(.int (oN bs.length))]) (lenOf pd_7 rfl) rfl (wL _) (hb hby d8_6) (fun _ _ => ⟨rfl, e101, (by decide : 0 + 0 ≤ _), (by decide : 0 + 0 ≤ _)⟩)
 dsimp only [Pt.U, Pt.locs, Pt.cells, Pt.slots] at X103 l103 y103 z103 st103 hQ103
 subst l103 y103 z103
 obtain ⟨rfl, N103q, H103⟩ := hQ103
 have N103 := Fr.app N0 N103q
 obtain ⟨fs, hr, hrun, hended, hW, hsame⟩ := X103.leave (v := some (.int ((oN bs.length) >>> ((0 : Int32) &&& 31)))) (nvr Bd.returns)
 refine ⟨_, _, pre0 _ ?_, hrun, hended, _, _, rfl, ?_, ⟨_, rfl⟩, hW, hsame.mono (by decide) (by decide)⟩
 ·skip
  show SS p e below s₁ m 0 #[vR a1] [] _
  refine XS.aloadN X0.here hx rfl (hb hby d8_0) rfl rfl ?_
  show SS p e below s₁ m 1 #[vR a1] [(.ref a1)] _
  refine st101 _ ?_
  show SS p e below T101 m 4 #[vR a1] [(.ref t1)] _
  refine X101.arraylength hx (by rw [e101]; exact Ar102.1) (State.isArrayOf_alike hZ.alike Ar102.2.1) (g := (mkF m 4 #[vR a1] [(.ref t1)])) rfl rfl (hb hby d8_4) _ ?_
  rw [len_of S102 Nn102]
  refine XS.aloadN X101.here hx rfl (hb hby d8_5) rfl rfl ?_
  show SS p e below T101 m 6 #[vR a1] [(.ref a1), (.int (oN bs.length))] _
  refine st103.trans ?_
  show SS p e below T103 m 9 #[vR a1] [(.int 0), (.int (oN bs.length))] _
  refine XS.ishr X103.here hx rfl (hb hby d8_9) rfl ?_
  show SS p e below T103 m 10 #[vR a1] [(.int ((oN bs.length) >>> ((0 : Int32) &&& 31)))] _
  exact retI X103 hx Bd.returns (hb hby d8_10) hr
 ·show Q_rmLenL Z a1 bs t1 k1 cs0 h0 n0 _ T103.heap _
  rw [H103]
  exact ⟨congrArg (fun z => some (Value.int z)) (own_shr0 _), N103, rfl⟩
theorem ef_rmCoderU (m : MethodId) (y0 : Addr) : entryFrame m #[(.ref y0)] 1 = (mkF m 0 #[vR y0] []) := by first | (simp [entryFrame, mkF, argsToLocals, Value.category]; done) | rfl
def Q_rmCoderU (Z : State) (a1 : Addr) (cs : List Int32) (t1 : Addr) (k1 : ClassId) (cs0 : Int32) (h0 : Heap) (n0 : Nat) (v : Option Value) (h : Heap) (L : List Loc) : Prop := v = some (.int 1) ∧ Fr n0 L ∧ h = h0
theorem rmCoderU (l : Launch) (Z : State) (a0 : Array Value) (hw : HW a0 Z) (ws : List Jvm.Cond) (a1 : Addr) (cs : List Int32) (t1 : Addr) (k1 : ClassId) (cs0 : Int32) (h0 : Heap) (n0 : Nat) (O0 : Old Z n0 h0) (S_CS : SCS Z cs0) (c_CS : ¬ (cs0 = (0 : Int32))) (E1 : Exa Z h0 a1 "java/lang/String") (F1 : Fld Z h0 a1 "java/lang/String" "value" "[B" (.ref t1)) (F2 : Fld Z h0 a1 "java/lang/String" "coder" "B" (.int 1)) (V1 : Arv Z h0 t1 k1 .byte (oN (2 * cs.length)) (u16 cs) (.int 0)) (hn : cs.length ≤ 4) :
  MF l mN10 jdk_42_method_152_code 1 (some .byte) ws (Rm 0 0 0 0) Z #[(.ref a1)] h0 (Q_rmCoderU Z a1 cs t1 k1 cs0 h0 n0) := by
 refine MetFree.of_bodySF (plainFor_of_name pn_2) hisR ?_
 intro p e s m args below meth c s₁ Bd hml0 hP hK
 obtain ⟨rfl, hZ, hh⟩ := hP
 have hx := Bd.exec
 have hby := Bd.bytes
 have hml : c.maxLocals = 1 := hml0
 have hown : s.vm.findClass "java/lang/String" = some m.cls := findClass_of_methodNamed Bd.named
 have X0 : Stand p l e (Rm 0 0 0 0) s m #[(.ref a1)] below meth c s₁ [] 0 0 := Stand.of_body Bd
 have e0 : s₁.heap = h0 := by rw [← hh, Bd.state]; rfl
 have N0 := Fr.nil n0
 have hn0 : n0 ≤ h0.size := O0.1 ▸ O0.2.1
 have pre0 : ∀ t, SS p e below s₁ m 0 #[vR a1] [] t → SE p e below s₁ m #[(.ref a1)] 1 t := fun t k => castTop (ef_rmCoderU m a1) k
 obtain ⟨T101, X101, e101, st101⟩ := getS2 X0 hx hZ hown (host := "") (Or.inl (tw hw 54 rfl)) Via.refl e0 (Sta.ext O0.2 S_CS) (g := (mkF m 0 #[vR a1] [])) rfl (hb hby d9_0)
 obtain ⟨T102, X102, e102, st102⟩ := getF X101 hx hZ hown (host := "") (Or.inl (tw hw 26 rfl)) Via.refl e101 F2 (g := (mkF m 7 #[vR a1] [(.ref a1)])) rfl rfl (hb hby d9_7)
 obtain ⟨fs, hr, hrun, hended, hW, hsame⟩ := X102.leave (v := some (.int 1)) (nvr Bd.returns)
 refine ⟨_, _, pre0 _ ?_, hrun, hended, _, _, rfl, ?_, ⟨_, rfl⟩, hW, hsame.mono (by decide) (by decide)⟩
 ·skip
  show SS p e below s₁ m 0 #[vR a1] [] _
  refine st101 _ ?_
  refine XS.ifNo X101.here hx rfl (hb hby d9_3) rfl ((if0 _ _).trans (feq (c_CS : ¬ (cs0 = (0 : Int32)))).1) ?_
  refine XS.aloadN X101.here hx rfl (hb hby d9_6) rfl rfl ?_
  show SS p e below T101 m 7 #[vR a1] [(.ref a1)] _
  refine st102 _ ?_
  refine XS.goto X102.here hx rfl (pc0 := 10) (pc' := 14) rfl (hb hby d9_10) (by decide) (by decide) ?_
  show SS p e below T102 m 14 #[vR a1] [(.int 1)] _
  exact retN X102 hx (t := .byte) Bd.returns (by simp) (hb hby d9_14) hr
 ·show Q_rmCoderU Z a1 cs t1 k1 cs0 h0 n0 _ T102.heap _
  rw [e102]
  exact ⟨rfl, N0, rfl⟩
theorem d42_17 : DK cD11 17 (.iconst 0) 1 := by decide +kernel
theorem ef_rmIsLatU (m : MethodId) (y0 : Addr) : entryFrame m #[(.ref y0)] 1 = (mkF m 0 #[vR y0] []) := by first | (simp [entryFrame, mkF, argsToLocals, Value.category]; done) | rfl
def Q_rmIsLatU (Z : State) (a1 : Addr) (cs : List Int32) (t1 : Addr) (k1 : ClassId) (cs0 : Int32) (h0 : Heap) (n0 : Nat) (v : Option Value) (h : Heap) (L : List Loc) : Prop := v = some (.int 0) ∧ Fr n0 L ∧ h = h0
theorem rmIsLatU (l : Launch) (Z : State) (a0 : Array Value) (hw : HW a0 Z) (ws : List Jvm.Cond) (a1 : Addr) (cs : List Int32) (t1 : Addr) (k1 : ClassId) (cs0 : Int32) (h0 : Heap) (n0 : Nat) (O0 : Old Z n0 h0) (S_CS : SCS Z cs0) (c_CS : ¬ (cs0 = (0 : Int32))) (E1 : Exa Z h0 a1 "java/lang/String") (F1 : Fld Z h0 a1 "java/lang/String" "value" "[B" (.ref t1)) (F2 : Fld Z h0 a1 "java/lang/String" "coder" "B" (.int 1)) (V1 : Arv Z h0 t1 k1 .byte (oN (2 * cs.length)) (u16 cs) (.int 0)) (hn : cs.length ≤ 4) :
  MF l mN11 jdk_42_method_154_code 1 (some .boolean) ws (Rm 0 0 0 0) Z #[(.ref a1)] h0 (Q_rmIsLatU Z a1 cs t1 k1 cs0 h0 n0) := by
 refine MetFree.of_bodySF (plainFor_of_name pn_2) hisR ?_
 intro p e s m args below meth c s₁ Bd hml0 hP hK
 obtain ⟨rfl, hZ, hh⟩ := hP
 have hx := Bd.exec
 have hby := Bd.bytes
 have hml : c.maxLocals = 1 := hml0
 have hown : s.vm.findClass "java/lang/String" = some m.cls := findClass_of_methodNamed Bd.named
 have X0 : Stand p l e (Rm 0 0 0 0) s m #[(.ref a1)] below meth c s₁ [] 0 0 := Stand.of_body Bd
 have e0 : s₁.heap = h0 := by rw [← hh, Bd.state]; rfl
 have N0 := Fr.nil n0
 have hn0 : n0 ≤ h0.size := O0.1 ▸ O0.2.1
 have pre0 : ∀ t, SS p e below s₁ m 0 #[vR a1] [] t → SE p e below s₁ m #[(.ref a1)] 1 t := fun t k => castTop (ef_rmIsLatU m a1) k
 obtain ⟨T101, X101, e101, st101⟩ := getS2 X0 hx hZ hown (host := "") (Or.inl (tw hw 54 rfl)) Via.refl e0 (Sta.ext O0.2 S_CS) (g := (mkF m 0 #[vR a1] [])) rfl (hb hby d42_0)
 obtain ⟨T102, X102, e102, st102⟩ := getF X101 hx hZ hown (host := "") (Or.inl (tw hw 26 rfl)) Via.refl e101 F2 (g := (mkF m 7 #[vR a1] [(.ref a1)])) rfl rfl (hb hby d42_7)
 obtain ⟨fs, hr, hrun, hended, hW, hsame⟩ := X102.leave (v := some (.int 0)) (nvr Bd.returns)
 refine ⟨_, _, pre0 _ ?_, hrun, hended, _, _, rfl, ?_, ⟨_, rfl⟩, hW, hsame.mono (by decide) (by decide)⟩
 ·skip
  show SS p e below s₁ m 0 #[vR a1] [] _
  refine st101 _ ?_
  refine XS.ifNo X101.here hx rfl (hb hby d42_3) rfl ((if0 _ _).trans (feq (c_CS : ¬ (cs0 = (0 : Int32)))).1) ?_
  refine XS.aloadN X101.here hx rfl (hb hby d42_6) rfl rfl ?_
  show SS p e below T101 m 7 #[vR a1] [(.ref a1)] _
  refine st102 _ ?_
  refine XS.ifYes X102.here hx rfl (pc0 := 10) (pc' := 17) rfl (hb hby d42_10) rfl ((if0 _ _).trans (feq (by decide : ¬ ((1 : Int32) = (0 : Int32)))).2) (by decide) (by decide) ?_
  refine XS.iconst X102.here hx rfl (hb hby d42_17) ?_
  show SS p e below T102 m 18 #[vR a1] [(.int 0)] _
  exact retN X102 hx (t := .boolean) Bd.returns (by simp) (hb hby d42_18) hr
 ·show Q_rmIsLatU Z a1 cs t1 k1 cs0 h0 n0 _ T102.heap _
  rw [e102]
  exact ⟨rfl, N0, rfl⟩
theorem ef_rmLenU (m : MethodId) (y0 : Addr) : entryFrame m #[(.ref y0)] 1 = (mkF m 0 #[vR y0] []) := by first | (simp [entryFrame, mkF, argsToLocals, Value.category]; done) | rfl
def Q_rmLenU (Z : State) (a1 : Addr) (cs : List Int32) (t1 : Addr) (k1 : ClassId) (cs0 : Int32) (h0 : Heap) (n0 : Nat) (v : Option Value) (h : Heap) (L : List Loc) : Prop := v = some (.int (oN cs.length)) ∧ Fr n0 L ∧ h = h0
theorem rmLenU (l : Launch) (Z : State) (a0 : Array Value) (hw : HW a0 Z) (ws : List Jvm.Cond) (a1 : Addr) (cs : List Int32) (t1 : Addr) (k1 : ClassId) (cs0 : Int32) (h0 : Heap) (n0 : Nat) (O0 : Old Z n0 h0) (S_CS : SCS Z cs0) (c_CS : ¬ (cs0 = (0 : Int32))) (E1 : Exa Z h0 a1 "java/lang/String") (F1 : Fld Z h0 a1 "java/lang/String" "value" "[B" (.ref t1)) (F2 : Fld Z h0 a1 "java/lang/String" "coder" "B" (.int 1)) (V1 : Arv Z h0 t1 k1 .byte (oN (2 * cs.length)) (u16 cs) (.int 0)) (hn : cs.length ≤ 4) :
  MF l mN12 jdk_42_method_54_code 1 (some .int) ws (Rm 1 0 0 20) Z #[(.ref a1)] h0 (Q_rmLenU Z a1 cs t1 k1 cs0 h0 n0) := by
 refine MetFree.of_bodySF (plainFor_of_name pn_2) hisR ?_
 intro p e s m args below meth c s₁ Bd hml0 hP hK
 obtain ⟨rfl, hZ, hh⟩ := hP
 have hx := Bd.exec
 have hby := Bd.bytes
 have hml : c.maxLocals = 1 := hml0
 have hown : s.vm.findClass "java/lang/String" = some m.cls := findClass_of_methodNamed Bd.named
 have X0 : Stand p l e (Rm 1 0 0 20) s m #[(.ref a1)] below meth c s₁ [] 0 0 := Stand.of_body Bd
 have e0 : s₁.heap = h0 := by rw [← hh, Bd.state]; rfl
 have N0 := Fr.nil n0
 have hn0 : n0 ≤ h0.size := O0.1 ▸ O0.2.1
 have pre0 : ∀ t, SS p e below s₁ m 0 #[vR a1] [] t → SE p e below s₁ m #[(.ref a1)] 1 t := fun t k => castTop (ef_rmLenU m a1) k
 obtain ⟨T101, X101, e101, st101⟩ := getF X0 hx hZ hown (host := "") (Or.inl (tw hw 25 rfl)) Via.refl e0 F1 (g := (mkF m 1 #[vR a1] [(.ref a1)])) rfl rfl (hb hby d8_1)
 obtain ⟨cl102, Ar102, q102, S102, Nn102, H102, G102⟩ := id V1
 obtain ⟨cq103, kq103, q103a, q103b, q103c⟩ := isOf hZ e101 E1
 obtain ⟨_, _, ⟨T103, L103, k103, n103⟩, -, X103, ⟨Lc103, hQ103, l103, y103, z103⟩, st103⟩ := X101.virtualBack hx (y := mN10) (z := mN10) hown (mvT hZ (tw hw 49 rfl)) (mvT hZ (tw hw 50 rfl)) (notFace_of_selects (args := #[]) (mvT hZ (tw hw 52 rfl))) (mvT hZ (tw hw 52 rfl)) (mvT hZ (tw hw 51 rfl)) (by decide) (backOf (W := 1) (rmCoderU l Z a0 hw [] a1 cs t1 k1 cs0 h0 n0 O0 S_CS c_CS E1 F1 F2 V1 hn) hZ (tw hw 53 rfl) (tw hw 8 rfl) (by decide) (by decide)) q103a q103c (g := (mkF m 6 #[vR a1] [(.ref a1), (.int (oN (2 * cs.length)))])) rfl (by rw [hml]; rfl) (Steps.refl _) (argsL := []) (rest := [(.int (oN (2 * cs.length)))]) (lenOf pd_7 rfl) rfl (wL _) (hb hby d8_6) (fun _ _ => ⟨rfl, e101, (by decide : 0 + 0 ≤ _), (by decide : 0 + 0 ≤ _)⟩)
 dsimp only [Pt.U, Pt.locs, Pt.cells, Pt.slots] at X103 l103 y103 z103 st103 hQ103
 subst l103 y103 z103
 obtain ⟨rfl, N103q, H103⟩ := hQ103
 have N103 := Fr.app N0 N103q
 obtain ⟨fs, hr, hrun, hended, hW, hsame⟩ := X103.leave (v := some (.int ((oN (2 * cs.length)) >>> ((1 : Int32) &&& 31)))) (nvr Bd.returns)
 refine ⟨_, _, pre0 _ ?_, hrun, hended, _, _, rfl, ?_, ⟨_, rfl⟩, hW, hsame.mono (by decide) (by decide)⟩
 ·skip
  show SS p e below s₁ m 0 #[vR a1] [] _
  refine XS.aloadN X0.here hx rfl (hb hby d8_0) rfl rfl ?_
  show SS p e below s₁ m 1 #[vR a1] [(.ref a1)] _
  refine st101 _ ?_
  show SS p e below T101 m 4 #[vR a1] [(.ref t1)] _
  refine X101.arraylength hx (by rw [e101]; exact Ar102.1) (State.isArrayOf_alike hZ.alike Ar102.2.1) (g := (mkF m 4 #[vR a1] [(.ref t1)])) rfl rfl (hb hby d8_4) _ ?_
  rw [len_of S102 Nn102]
  refine XS.aloadN X101.here hx rfl (hb hby d8_5) rfl rfl ?_
  show SS p e below T101 m 6 #[vR a1] [(.ref a1), (.int (oN (2 * cs.length)))] _
  refine st103.trans ?_
  show SS p e below T103 m 9 #[vR a1] [(.int 1), (.int (oN (2 * cs.length)))] _
  refine XS.ishr X103.here hx rfl (hb hby d8_9) rfl ?_
  show SS p e below T103 m 10 #[vR a1] [(.int ((oN (2 * cs.length)) >>> ((1 : Int32) &&& 31)))] _
  exact retI X103 hx Bd.returns (hb hby d8_10) hr
 ·show Q_rmLenU Z a1 cs t1 k1 cs0 h0 n0 _ T103.heap _
  rw [H103]
  exact ⟨congrArg (fun z => some (Value.int z)) (own_shr1 (by omega)), N103, rfl⟩
theorem d27_0 : DK cD13 0 (.iload_n 0) 1 := by decide +kernel
theorem d27_1 : DK cD13 1 (.iload_n 1) 1 := by decide +kernel
theorem d27_2 : DK cD13 2 (.if_icmp .gt 7) 3 := by decide +kernel
theorem d27_5 : DK cD13 5 (.iload_n 0) 1 := by decide +kernel
theorem d27_6 : DK cD13 6 (.goto 4) 3 := by decide +kernel
theorem d27_9 : DK cD13 9 (.iload_n 1) 1 := by decide +kernel
theorem d27_10 : DK cD13 10 (.ireturn) 1 := by decide +kernel
theorem ef_rmMmin (m : MethodId) (y0 : Int32) (y1 : Int32) : entryFrame m #[(.int y0), (.int y1)] 2 = (mkF m 0 #[vI y0, vI y1] []) := by first | (simp [entryFrame, mkF, argsToLocals, Value.category]; done) | rfl
def Q_rmMmin (Z : State) (p1 : Int32) (p2 : Int32) (h0 : Heap) (n0 : Nat) (v : Option Value) (h : Heap) (L : List Loc) : Prop := v = some (.int (jmin p1 p2)) ∧ Fr n0 L ∧ h = h0
theorem rmMmin (l : Launch) (Z : State) (a0 : Array Value) (hw : HW a0 Z) (ws : List Jvm.Cond) (p1 : Int32) (p2 : Int32) (h0 : Heap) (n0 : Nat) (O0 : Old Z n0 h0) :
  MF l mN13 jdk_29_method_69_code 2 (some .int) ws (Rm 0 0 0 0) Z #[(.int p1), (.int p2)] h0 (Q_rmMmin Z p1 p2 h0 n0) := by
 refine MetFree.of_bodySF (Jvm.Free.JP.mathPlain rfl (by decide +kernel)) hisR ?_
 intro p e s m args below meth c s₁ Bd hml0 hP hK
 obtain ⟨rfl, hZ, hh⟩ := hP
 have hx := Bd.exec
 have hby := Bd.bytes
 have hml : c.maxLocals = 2 := hml0
 have hown : s.vm.findClass "java/lang/Math" = some m.cls := findClass_of_methodNamed Bd.named
 have X0 : Stand p l e (Rm 0 0 0 0) s m #[(.int p1), (.int p2)] below meth c s₁ [] 0 0 := Stand.of_body Bd
 have e0 : s₁.heap = h0 := by rw [← hh, Bd.state]; rfl
 have N0 := Fr.nil n0
 have hn0 : n0 ≤ h0.size := O0.1 ▸ O0.2.1
 have pre0 : ∀ t, SS p e below s₁ m 0 #[vI p1, vI p2] [] t → SE p e below s₁ m #[(.int p1), (.int p2)] 2 t := fun t k => castTop (ef_rmMmin m p1 p2) k
 have pre102 : ∀ t, SS p e below s₁ m 2 #[vI p1, vI p2] [(.int p2), (.int p1)] t → SE p e below s₁ m #[(.int p1), (.int p2)] 2 t := by
  intro t kt
  refine pre0 _ ?_
  show SS p e below s₁ m 0 #[vI p1, vI p2] [] _
  refine XS.iloadN X0.here hx rfl (hb hby d27_0) rfl ?_
  refine XS.iloadN X0.here hx rfl (hb hby d27_1) rfl ?_
  exact kt
 by_cases hc101 : p2 < p1
 ·skip
  obtain ⟨fs, hr, hrun, hended, hW, hsame⟩ := X0.leave (v := some (.int p2)) (nvr Bd.returns)
  refine ⟨_, _, pre102 _ ?_, hrun, hended, _, _, rfl, ?_, ⟨_, rfl⟩, hW, hsame.mono (by decide) (by decide)⟩
  ·skip
   show SS p e below s₁ m 2 #[vI p1, vI p2] [(.int p2), (.int p1)] _
   refine XS.icmpYes X0.here hx rfl (pc0 := 2) (pc' := 9) rfl (hb hby d27_2) rfl (tlt hc101).2.2.1 (by decide) (by decide) ?_
   refine XS.iloadN X0.here hx rfl (hb hby d27_9) rfl ?_
   show SS p e below s₁ m 10 #[vI p1, vI p2] [(.int p2)] _
   exact retI X0 hx Bd.returns (hb hby d27_10) hr
  ·show Q_rmMmin Z p1 p2 h0 n0 _ s₁.heap _
   rw [e0]
   exact ⟨by rw [jmin, if_pos hc101], N0, rfl⟩
 ·skip
  obtain ⟨fs, hr, hrun, hended, hW, hsame⟩ := X0.leave (v := some (.int p1)) (nvr Bd.returns)
  refine ⟨_, _, pre102 _ ?_, hrun, hended, _, _, rfl, ?_, ⟨_, rfl⟩, hW, hsame.mono (by decide) (by decide)⟩
  ·skip
   show SS p e below s₁ m 2 #[vI p1, vI p2] [(.int p2), (.int p1)] _
   refine XS.icmpNo X0.here hx rfl (hb hby d27_2) rfl (flt hc101).2.2.1 ?_
   refine XS.iloadN X0.here hx rfl (hb hby d27_5) rfl ?_
   refine XS.goto X0.here hx rfl (pc0 := 6) (pc' := 10) rfl (hb hby d27_6) (by decide) (by decide) ?_
   show SS p e below s₁ m 10 #[vI p1, vI p2] [(.int p1)] _
   exact retI X0 hx Bd.returns (hb hby d27_10) hr
  ·show Q_rmMmin Z p1 p2 h0 n0 _ s₁.heap _
   rw [e0]
   exact ⟨by rw [jmin, if_neg hc101], N0, rfl⟩
theorem d26_0 : DK cD14 0 (.iload_n 1) 1 := by decide +kernel
theorem d26_1 : DK cD14 1 (.iload_n 0) 1 := by decide +kernel
theorem d26_2 : DK cD14 2 (.if_icmp .ge 35) 3 := by decide +kernel
theorem d26_37 : DK cD14 37 (.return_) 1 := by decide +kernel
theorem pn_24 : plainName "java/util/Arrays" = true := by first | (simp [plainName, overriddenIn]; done) | decide +kernel
theorem ef_rmCkl (m : MethodId) (y0 : Int32) : entryFrame m #[(.int 0), (.int y0)] 2 = (mkF m 0 #[vI 0, vI y0] []) := by first | (simp [entryFrame, mkF, argsToLocals, Value.category]; done) | rfl
def Q_rmCkl (Z : State) (n : Nat) (h0 : Heap) (n0 : Nat) (v : Option Value) (h : Heap) (L : List Loc) : Prop := v = none ∧ Fr n0 L ∧ h = h0
theorem rmCkl (l : Launch) (Z : State) (a0 : Array Value) (hw : HW a0 Z) (ws : List Jvm.Cond) (n : Nat) (h0 : Heap) (n0 : Nat) (O0 : Old Z n0 h0) (hn : n < 2 ^ 31) :
  MF l mN14 jdk_65_method_131_code 2 none ws (Rm 0 0 0 0) Z #[(.int 0), (.int (oN n))] h0 (Q_rmCkl Z n h0 n0) := by
 refine MetFree.of_bodySF (plainFor_of_name pn_24) hisR ?_
 intro p e s m args below meth c s₁ Bd hml0 hP hK
 obtain ⟨rfl, hZ, hh⟩ := hP
 have hx := Bd.exec
 have hby := Bd.bytes
 have hml : c.maxLocals = 2 := hml0
 have hown : s.vm.findClass "java/util/Arrays" = some m.cls := findClass_of_methodNamed Bd.named
 have X0 : Stand p l e (Rm 0 0 0 0) s m #[(.int 0), (.int (oN n))] below meth c s₁ [] 0 0 := Stand.of_body Bd
 have e0 : s₁.heap = h0 := by rw [← hh, Bd.state]; rfl
 have N0 := Fr.nil n0
 have hn0 : n0 ≤ h0.size := O0.1 ▸ O0.2.1
 have pre0 : ∀ t, SS p e below s₁ m 0 #[vI 0, vI (oN n)] [] t → SE p e below s₁ m #[(.int 0), (.int (oN n))] 2 t := fun t k => castTop (ef_rmCkl m ((oN n))) k
 obtain ⟨fs, hr, hrun, hended, hW, hsame⟩ := X0.leave (v := none) (fun _ => rfl)
 refine ⟨_, _, pre0 _ ?_, hrun, hended, _, _, rfl, ?_, ⟨_, rfl⟩, hW, hsame.mono (by decide) (by decide)⟩
 ·skip
  show SS p e below s₁ m 0 #[vI 0, vI (oN n)] [] _
  refine XS.iloadN X0.here hx rfl (hb hby d26_0) rfl ?_
  refine XS.iloadN X0.here hx rfl (hb hby d26_1) rfl ?_
  refine XS.icmpYes X0.here hx rfl (pc0 := 2) (pc' := 37) rfl (hb hby d26_2) rfl (flt (own_nn hn : ¬ ((oN n) < (0 : Int32)))).2.1 (by decide) (by decide) ?_
  show SS p e below s₁ m 37 #[vI 0, vI (oN n)] [] _
  exact X0.returnOut hx Bd.returns (hb hby d26_37) hr
 ·show Q_rmCkl Z n h0 n0 _ s₁.heap _
  rw [e0]
  exact ⟨rfl, N0, rfl⟩
theorem d25_0 : DK cD15 0 (.iload_n 1) 1 := by decide +kernel
theorem d25_1 : DK cD15 1 (.iload_n 2) 1 := by decide +kernel
theorem d25_2 : DK cD15 2 (.invokestatic 343) 3 := by decide +kernel
theorem d25_5 : DK cD15 5 (.iload_n 2) 1 := by decide +kernel
theorem d25_6 : DK cD15 6 (.iload_n 1) 1 := by decide +kernel
theorem d25_7 : DK cD15 7 (.isub) 1 := by decide +kernel
theorem d25_8 : DK cD15 8 (.istore_n 3) 1 := by decide +kernel
theorem d25_9 : DK cD15 9 (.iload_n 3) 1 := by decide +kernel
theorem d25_10 : DK cD15 10 (.newarray .byte) 2 := by decide +kernel
theorem d25_12 : DK cD15 12 (.astore 4) 2 := by decide +kernel
theorem d25_14 : DK cD15 14 (.aload_n 0) 1 := by decide +kernel
theorem d25_15 : DK cD15 15 (.iload_n 1) 1 := by decide +kernel
theorem d25_16 : DK cD15 16 (.aload 4) 2 := by decide +kernel
theorem d25_18 : DK cD15 18 (.iconst 0) 1 := by decide +kernel
theorem d25_19 : DK cD15 19 (.aload_n 0) 1 := by decide +kernel
theorem d25_20 : DK cD15 20 (.arraylength) 1 := by decide +kernel
theorem d25_21 : DK cD15 21 (.iload_n 1) 1 := by decide +kernel
theorem d25_22 : DK cD15 22 (.isub) 1 := by decide +kernel
theorem d25_23 : DK cD15 23 (.iload_n 3) 1 := by decide +kernel
theorem d25_24 : DK cD15 24 (.invokestatic 304) 3 := by decide +kernel
theorem d25_27 : DK cD15 27 (.invokestatic 150) 3 := by decide +kernel
theorem d25_30 : DK cD15 30 (.aload 4) 2 := by decide +kernel
theorem d25_32 : DK cD15 32 (.areturn) 1 := by decide +kernel
theorem pd_20 : parseMethodDescriptor "(II)V" = some ⟨[.int, .int], none⟩ := by decide +kernel
theorem pd_21 : parseMethodDescriptor "(II)I" = some ⟨[.int, .int], some .int⟩ := by decide +kernel
theorem ef_rmCrb (m : MethodId) (y0 : Addr) (y1 : Int32) : entryFrame m #[(.ref y0), (.int 0), (.int y1)] 5 = (mkF m 0 #[vR y0, vI 0, vI y1, .unset, .unset] []) := by first | (simp [entryFrame, mkF, argsToLocals, Value.category]; done) | rfl
def Q_rmCrb (Z : State) (a1 : Addr) (n zc : Nat) (k1 : ClassId) (vs : List Value) (h0 : Heap) (n0 : Nat) (v : Option Value) (h : Heap) (L : List Loc) : Prop := ∃ (t : Addr) (kb : ClassId), v = some (.ref t) ∧ Fr n0 L ∧ Keep h0 h [] ∧ h0.size ≤ t ∧ Arv Z h t kb .byte (oN n) vs (.int 0)
theorem rmCrb (l : Launch) (Z : State) (a0 : Array Value) (hw : HW a0 Z) (ws : List Jvm.Cond) (a1 : Addr) (n zc : Nat) (k1 : ClassId) (vs : List Value) (h0 : Heap) (n0 : Nat) (O0 : Old Z n0 h0) (V1 : Arv Z h0 a1 k1 .byte (oN zc) vs (.int 0)) (hl : vs.length = n) (hnz : n < zc) (hn : n ≤ 40) (hz : zc < 2 ^ 31) :
  MF l mN15 jdk_65_method_133_code 5 (some (.array .byte)) ws (Rm 1 1 40 40) Z #[(.ref a1), (.int 0), (.int (oN n))] h0 (Q_rmCrb Z a1 n zc k1 vs h0 n0) := by
 refine MetFree.of_bodySF (plainFor_of_name pn_24) hisR ?_
 intro p e s m args below meth c s₁ Bd hml0 hP hK
 obtain ⟨rfl, hZ, hh⟩ := hP
 have hx := Bd.exec
 have hby := Bd.bytes
 have hml : c.maxLocals = 5 := hml0
 have hown : s.vm.findClass "java/util/Arrays" = some m.cls := findClass_of_methodNamed Bd.named
 have X0 : Stand p l e (Rm 1 1 40 40) s m #[(.ref a1), (.int 0), (.int (oN n))] below meth c s₁ [] 0 0 := Stand.of_body Bd
 have e0 : s₁.heap = h0 := by rw [← hh, Bd.state]; rfl
 have N0 := Fr.nil n0
 have hn0 : n0 ≤ h0.size := O0.1 ▸ O0.2.1
 have pre0 : ∀ t, SS p e below s₁ m 0 #[vR a1, vI 0, vI (oN n), .unset, .unset] [] t → SE p e below s₁ m #[(.ref a1), (.int 0), (.int (oN n))] 5 t := fun t k => castTop (ef_rmCrb m a1 ((oN n))) k
 have lt_a1 : @LT.lt Nat _ a1 h0.size := V1.lt
 obtain ⟨_, _, ⟨T101, L101, k101, n101⟩, -, X101, ⟨Lc101, hQ101, l101, y101, z101⟩, st101⟩ := Jvm.LawKit.callS X0 hx (y := mN14) hown (mvT hZ (tw hw 142 rfl)) (mvT hZ (tw hw 143 rfl)) (mvT hZ (tw hw 137 rfl)) (mvT hZ (tw hw 144 rfl)) (by decide) (backOf (W := 0) (rmCkl l Z a0 hw []  n h0 n0 O0 (by omega)) hZ (tw hw 144 rfl) (tw hw 137 rfl) (by decide) (by decide)) (g := (mkF m 2 #[vR a1, vI 0, vI (oN n), .unset, .unset] [(.int (oN n)), (.int 0)])) rfl (by rw [hml]; rfl) (argsL := [(.int 0), (.int (oN n))]) (rest := []) (lenOf pd_20 rfl) rfl (wL _) (hb hby d25_2) (fun _ _ => ⟨rfl, e0, (by decide : 0 + 0 ≤ _), (by decide : 0 + 0 ≤ _)⟩)
 dsimp only [Pt.U, Pt.locs, Pt.cells, Pt.slots] at X101 l101 y101 z101 st101 hQ101
 subst l101 y101 z101
 obtain ⟨rfl, N101q, H101⟩ := hQ101
 have N101 := Fr.app N0 N101q
 have hr102 : ((oN n) - (0 : Int32)) = (oN n) := Int32.sub_zero _
 obtain ⟨T103, h103, k103, X103, e103, E103, A103, st103⟩ := newP X101 hx hZ (tw hw 20 rfl) H101 (g := (mkF m 10 #[vR a1, vI 0, vI (oN n), vI (oN n), .unset] [(.int (oN n))])) rfl (hb hby d25_10) rfl (own_nn (by omega)) (cap := 40) (by rw [own_nat (by omega)]; omega) (by decide) (by decide) (by decide)
 obtain ⟨b103, g103⟩ : ∃ z, z = h0.size := ⟨_, rfl⟩
 rw [← g103] at A103 st103
 have V103 : Arv Z h103 b103 k103 .byte (oN n) (List.replicate n (.int 0)) (.int 0) := (Arv.new A103 (own_nn (by omega))).pad (pad_rep [] (.int 0) n)
 have lt103 : @LT.lt Nat _ b103 h103.size := V103.lt
 have K103 : Keep h0 h103 [] := (Keep.refl _ _).ext E103
 have sz1_K103 := K103.1
 have C104 := V1.keep K103 nin0
 obtain ⟨cl105, Ar105, q105, S105, Nn105, H105, G105⟩ := id C104
 have hr106 : ((oN zc) - (0 : Int32)) = (oN zc) := Int32.sub_zero _
 have O108 : Old Z n0 h103 := O0.keep K103 all0
 obtain ⟨_, _, ⟨T107, L107, k107, n107⟩, -, X107, ⟨Lc107, hQ107, l107, y107, z107⟩, st107⟩ := Jvm.LawKit.callS X103 hx (y := mN13) hown (mvT hZ (tw hw 145 rfl)) (mvT hZ (tw hw 146 rfl)) (mvT hZ (tw hw 147 rfl)) (mvT hZ (tw hw 148 rfl)) (by decide) (backOf (W := 4) (rmMmin l Z a0 hw [] (oN zc) (oN n)  h103 n0 O108 ) hZ (tw hw 148 rfl) (tw hw 147 rfl) (by decide) (by decide)) (g := (mkF m 24 #[vR a1, vI 0, vI (oN n), vI (oN n), vR b103] [(.int (oN n)), (.int (oN zc)), (.int 0), (.ref b103), (.int 0), (.ref a1)])) rfl (by rw [hml]; rfl) (argsL := [(.int (oN zc)), (.int (oN n))]) (rest := [(.int 0), (.ref b103), (.int 0), (.ref a1)]) (lenOf pd_21 rfl) rfl (wL _) (hb hby d25_24) (fun _ _ => ⟨rfl, e103, (by decide : 1 + 0 ≤ _), (by decide : 40 + 0 ≤ _)⟩)
 dsimp only [Pt.U, Pt.locs, Pt.cells, Pt.slots] at X107 l107 y107 z107 st107 hQ107
 subst l107 y107 z107
 obtain ⟨rfl, N107q, H107⟩ := hQ107
 have N107 := Fr.app N101 N107q
 have hr109 : (jmin (oN zc) (oN n)) = (oN n) := own_jmin' hnz hz
 obtain ⟨T110, h110, L110, X110, e110, N110, K110, V110w, st110⟩ := cpA X107 hx hZ hown (tw hw 149 rfl) (tw hw 101 rfl) (tw hw 99 rfl) (tw hw 100 rfl) H107 (us := vs) C104 V103 (Or.inl ⟨rfl, rfl⟩) (by decide) (by decide) (own_nn (by omega)) (by rw [own_z0, own_nat (by omega), own_nat hz]; omega) (by rw [own_z0]; exact Nat.le_of_eq (Nat.zero_add _)) (own_cpy _ _ own_z0 (by rw [own_nat (by omega)]; exact hl)) (by rw [own_z0, own_nat (by omega), List.length_replicate]; omega) N107 (by omega : @LE.le Nat _ n0 b103) (g := (mkF m 27 #[vR a1, vI 0, vI (oN n), vI (oN n), vR b103] [(.int (oN n)), (.int 0), (.ref b103), (.int 0), (.ref a1)])) rfl (by rw [hml]; rfl) rfl (hb hby d25_27) (by decide) (W := 0) (wL _) (by decide)
 have V110 : Arv Z h110 b103 k103 .byte (oN n) vs (.int 0) := V110w.pad (own_padr _ _ own_z0)
 have sz2_K110 := K110.1
 have KC111 : Keep h0 h103 [] := (Keep.refl h0 []).trans K103 (all0)
 have KC112 : Keep h0 h110 [] := KC111.trans K110 (allS (Or.inr (by omega)) (all0))
 obtain ⟨fs, hr, hrun, hended, hW, hsame⟩ := X110.leave (v := some (.ref b103)) (nvr Bd.returns)
 refine ⟨_, _, pre0 _ ?_, hrun, hended, _, _, rfl, ?_, ⟨_, rfl⟩, hW, hsame.mono (by decide) (by decide)⟩
 ·skip
  show SS p e below s₁ m 0 #[vR a1, vI 0, vI (oN n), .unset, .unset] [] _
  refine XS.iloadN X0.here hx rfl (hb hby d25_0) rfl ?_
  refine XS.iloadN X0.here hx rfl (hb hby d25_1) rfl ?_
  show SS p e below s₁ m 2 #[vR a1, vI 0, vI (oN n), .unset, .unset] [(.int (oN n)), (.int 0)] _
  refine st101 _ ?_
  refine XS.iloadN X101.here hx rfl (hb hby d25_5) rfl ?_
  refine XS.iloadN X101.here hx rfl (hb hby d25_6) rfl ?_
  refine XS.isub X101.here hx rfl (hb hby d25_7) rfl ?_
  show SS p e below T101 m 8 #[vR a1, vI 0, vI (oN n), .unset, .unset] [(.int ((oN n) - (0 : Int32)))] _
  rw [hr102]
  refine XS.istoreN X101.here hx rfl (hb hby d25_8) rfl (l' := #[vR a1, vI 0, vI (oN n), vI (oN n), .unset]) rfl ?_
  refine XS.iloadN X101.here hx rfl (hb hby d25_9) rfl ?_
  show SS p e below T101 m 10 #[vR a1, vI 0, vI (oN n), vI (oN n), .unset] [(.int (oN n))] _
  refine st103 _ ?_
  refine XS.astore X103.here hx rfl (hb hby d25_12) rfl rfl (l' := #[vR a1, vI 0, vI (oN n), vI (oN n), vR b103]) rfl ?_
  refine XS.aloadN X103.here hx rfl (hb hby d25_14) rfl rfl ?_
  refine XS.iloadN X103.here hx rfl (hb hby d25_15) rfl ?_
  refine XS.aload X103.here hx rfl (hb hby d25_16) rfl rfl ?_
  refine XS.iconst X103.here hx rfl (hb hby d25_18) ?_
  refine XS.aloadN X103.here hx rfl (hb hby d25_19) rfl rfl ?_
  show SS p e below T103 m 20 #[vR a1, vI 0, vI (oN n), vI (oN n), vR b103] [(.ref a1), (.int 0), (.ref b103), (.int 0), (.ref a1)] _
  refine X103.arraylength hx (by rw [e103]; exact Ar105.1) (State.isArrayOf_alike hZ.alike Ar105.2.1) (g := (mkF m 20 #[vR a1, vI 0, vI (oN n), vI (oN n), vR b103] [(.ref a1), (.int 0), (.ref b103), (.int 0), (.ref a1)])) rfl rfl (hb hby d25_20) _ ?_
  rw [len_of S105 Nn105]
  refine XS.iloadN X103.here hx rfl (hb hby d25_21) rfl ?_
  refine XS.isub X103.here hx rfl (hb hby d25_22) rfl ?_
  show SS p e below T103 m 23 #[vR a1, vI 0, vI (oN n), vI (oN n), vR b103] [(.int ((oN zc) - (0 : Int32))), (.int 0), (.ref b103), (.int 0), (.ref a1)] _
  rw [hr106]
  refine XS.iloadN X103.here hx rfl (hb hby d25_23) rfl ?_
  show SS p e below T103 m 24 #[vR a1, vI 0, vI (oN n), vI (oN n), vR b103] [(.int (oN n)), (.int (oN zc)), (.int 0), (.ref b103), (.int 0), (.ref a1)] _
  refine st107 _ ?_
  show SS p e below T107 m 27 #[vR a1, vI 0, vI (oN n), vI (oN n), vR b103] [(.int (jmin (oN zc) (oN n))), (.int 0), (.ref b103), (.int 0), (.ref a1)] _
  rw [hr109]
  show SS p e below T107 m 27 #[vR a1, vI 0, vI (oN n), vI (oN n), vR b103] [(.int (oN n)), (.int 0), (.ref b103), (.int 0), (.ref a1)] _
  refine st110 _ ?_
  refine XS.aload X110.here hx rfl (hb hby d25_30) rfl rfl ?_
  show SS p e below T110 m 32 #[vR a1, vI 0, vI (oN n), vI (oN n), vR b103] [(.ref b103)] _
  exact X110.areturnOut hx rfl Bd.returns rfl (hb hby d25_32) hr
 ·show Q_rmCrb Z a1 n zc k1 vs h0 n0 _ T110.heap _
  rw [e110]
  exact ⟨_, _, rfl, N110, KC112, (by omega), V110⟩
theorem d24_0 : DK cD16 0 (.iload_n 1) 1 := by decide +kernel
theorem d24_1 : DK cD16 1 (.ifCond .ne 9) 3 := by decide +kernel
theorem d24_4 : DK cD16 4 (.iload_n 2) 1 := by decide +kernel
theorem d24_5 : DK cD16 5 (.aload_n 0) 1 := by decide +kernel
theorem d24_6 : DK cD16 6 (.arraylength) 1 := by decide +kernel
theorem d24_7 : DK cD16 7 (.if_icmp .eq 10) 3 := by decide +kernel
theorem d24_10 : DK cD16 10 (.aload_n 0) 1 := by decide +kernel
theorem d24_11 : DK cD16 11 (.iload_n 1) 1 := by decide +kernel
theorem d24_12 : DK cD16 12 (.iload_n 2) 1 := by decide +kernel
theorem d24_13 : DK cD16 13 (.invokestatic 339) 3 := by decide +kernel
theorem d24_16 : DK cD16 16 (.areturn) 1 := by decide +kernel
theorem pd_19 : parseMethodDescriptor "([BII)[B" = some ⟨[(.array .byte), .int, .int], some (.array .byte)⟩ := by decide +kernel
theorem ef_rmCr (m : MethodId) (y0 : Addr) (y1 : Int32) : entryFrame m #[(.ref y0), (.int 0), (.int y1)] 3 = (mkF m 0 #[vR y0, vI 0, vI y1] []) := by first | (simp [entryFrame, mkF, argsToLocals, Value.category]; done) | rfl
def Q_rmCr (Z : State) (a1 : Addr) (n zc : Nat) (k1 : ClassId) (vs : List Value) (h0 : Heap) (n0 : Nat) (v : Option Value) (h : Heap) (L : List Loc) : Prop := ∃ (t : Addr) (kb : ClassId), v = some (.ref t) ∧ Fr n0 L ∧ Keep h0 h [] ∧ h0.size ≤ t ∧ Arv Z h t kb .byte (oN n) vs (.int 0)
theorem rmCr (l : Launch) (Z : State) (a0 : Array Value) (hw : HW a0 Z) (ws : List Jvm.Cond) (a1 : Addr) (n zc : Nat) (k1 : ClassId) (vs : List Value) (h0 : Heap) (n0 : Nat) (O0 : Old Z n0 h0) (V1 : Arv Z h0 a1 k1 .byte (oN zc) vs (.int 0)) (hl : vs.length = n) (hnz : n < zc) (hn : n ≤ 40) (hz : zc < 2 ^ 31) :
  MF l mN16 jdk_65_method_132_code 3 (some (.array .byte)) ws (Rm 2 1 40 60) Z #[(.ref a1), (.int 0), (.int (oN n))] h0 (Q_rmCr Z a1 n zc k1 vs h0 n0) := by
 refine MetFree.of_bodySF (plainFor_of_name pn_24) hisR ?_
 intro p e s m args below meth c s₁ Bd hml0 hP hK
 obtain ⟨rfl, hZ, hh⟩ := hP
 have hx := Bd.exec
 have hby := Bd.bytes
 have hml : c.maxLocals = 3 := hml0
 have hown : s.vm.findClass "java/util/Arrays" = some m.cls := findClass_of_methodNamed Bd.named
 have X0 : Stand p l e (Rm 2 1 40 60) s m #[(.ref a1), (.int 0), (.int (oN n))] below meth c s₁ [] 0 0 := Stand.of_body Bd
 have e0 : s₁.heap = h0 := by rw [← hh, Bd.state]; rfl
 have N0 := Fr.nil n0
 have hn0 : n0 ≤ h0.size := O0.1 ▸ O0.2.1
 have pre0 : ∀ t, SS p e below s₁ m 0 #[vR a1, vI 0, vI (oN n)] [] t → SE p e below s₁ m #[(.ref a1), (.int 0), (.int (oN n))] 3 t := fun t k => castTop (ef_rmCr m a1 ((oN n))) k
 obtain ⟨cl101, Ar101, q101, S101, Nn101, H101, G101⟩ := id V1
 obtain ⟨_, _, ⟨T102, L102, k102, n102⟩, -, X102, ⟨Lc102, hQ102, l102, y102, z102⟩, st102⟩ := Jvm.LawKit.callS X0 hx (y := mN15) hown (mvT hZ (tw hw 139 rfl)) (mvT hZ (tw hw 140 rfl)) (mvT hZ (tw hw 137 rfl)) (mvT hZ (tw hw 141 rfl)) (by decide) (backOf (W := 0) (rmCrb l Z a0 hw [] a1 n zc k1 vs h0 n0 O0 V1 hl hnz hn hz) hZ (tw hw 141 rfl) (tw hw 137 rfl) (by decide) (by decide)) (g := (mkF m 13 #[vR a1, vI 0, vI (oN n)] [(.int (oN n)), (.int 0), (.ref a1)])) rfl (by rw [hml]; rfl) (argsL := [(.ref a1), (.int 0), (.int (oN n))]) (rest := []) (lenOf pd_19 rfl) rfl (wL _) (hb hby d24_13) (fun _ _ => ⟨rfl, e0, (by decide : 0 + 1 ≤ _), (by decide : 0 + 40 ≤ _)⟩)
 dsimp only [Pt.U, Pt.locs, Pt.cells, Pt.slots] at X102 l102 y102 z102 st102 hQ102
 subst l102 y102 z102
 obtain ⟨t102, kb102, rfl, N102q, K102, gt102, V102⟩ := hQ102
 have lt102 : @LT.lt Nat _ t102 T102.heap.size := V102.lt
 have sz1_K102 := K102.1
 have N102 := Fr.app N0 N102q
 have KC103 : Keep h0 T102.heap [] := (Keep.refl h0 []).trans K102 (all0)
 obtain ⟨fs, hr, hrun, hended, hW, hsame⟩ := X102.leave (v := some (.ref t102)) (nvr Bd.returns)
 refine ⟨_, _, pre0 _ ?_, hrun, hended, _, _, rfl, ?_, ⟨_, rfl⟩, hW, hsame.mono (by decide) (by decide)⟩
 ·skip
  show SS p e below s₁ m 0 #[vR a1, vI 0, vI (oN n)] [] _
  refine XS.iloadN X0.here hx rfl (hb hby d24_0) rfl ?_
  refine XS.ifNo X0.here hx rfl (hb hby d24_1) rfl ((if0 _ _).trans (teq (by decide : (0 : Int32) = (0 : Int32))).2) ?_
  refine XS.iloadN X0.here hx rfl (hb hby d24_4) rfl ?_
  refine XS.aloadN X0.here hx rfl (hb hby d24_5) rfl rfl ?_
  show SS p e below s₁ m 6 #[vR a1, vI 0, vI (oN n)] [(.ref a1), (.int (oN n))] _
  refine X0.arraylength hx (by rw [e0]; exact Ar101.1) (State.isArrayOf_alike hZ.alike Ar101.2.1) (g := (mkF m 6 #[vR a1, vI 0, vI (oN n)] [(.ref a1), (.int (oN n))])) rfl rfl (hb hby d24_6) _ ?_
  rw [len_of S101 Nn101]
  refine XS.icmpNo X0.here hx rfl (hb hby d24_7) rfl (feq (fun q => Nat.ne_of_lt hnz ((own_eqn (by omega) hz).mp q) : ¬ ((oN n) = (oN zc)))).1 ?_
  refine XS.aloadN X0.here hx rfl (hb hby d24_10) rfl rfl ?_
  refine XS.iloadN X0.here hx rfl (hb hby d24_11) rfl ?_
  refine XS.iloadN X0.here hx rfl (hb hby d24_12) rfl ?_
  show SS p e below s₁ m 13 #[vR a1, vI 0, vI (oN n)] [(.int (oN n)), (.int 0), (.ref a1)] _
  refine st102 _ ?_
  show SS p e below T102 m 16 #[vR a1, vI 0, vI (oN n)] [(.ref t102)] _
  exact X102.areturnOut hx rfl Bd.returns rfl (hb hby d24_16) hr
 ·show Q_rmCr Z a1 n zc k1 vs h0 n0 _ T102.heap _
  exact ⟨_, _, rfl, N102, KC103, (by omega), V102⟩
theorem d35_0 : DK cD17 0 (.iload_n 0) 1 := by decide +kernel
theorem d35_1 : DK cD17 1 (.ifCond .lt 8) 3 := by decide +kernel
theorem d35_4 : DK cD17 4 (.iload_n 0) 1 := by decide +kernel
theorem d35_5 : DK cD17 5 (.iload_n 1) 1 := by decide +kernel
theorem d35_6 : DK cD17 6 (.if_icmp .lt 10) 3 := by decide +kernel
theorem d35_16 : DK cD17 16 (.iload_n 0) 1 := by decide +kernel
theorem d35_17 : DK cD17 17 (.ireturn) 1 := by decide +kernel
theorem pn_35 : plainName "jdk/internal/util/Preconditions" = true := by first | (simp [plainName, overriddenIn]; done) | decide +kernel
theorem ef_rmCkN (m : MethodId) (y0 : Int32) (y1 : Int32) : entryFrame m #[(.int y0), (.int y1), .null] 3 = (mkF m 0 #[vI y0, vI y1, .val .null] []) := by first | (simp [entryFrame, mkF, argsToLocals, Value.category]; done) | rfl
def Q_rmCkN (Z : State) (p1 : Int32) (p2 : Int32) (h0 : Heap) (n0 : Nat) (v : Option Value) (h : Heap) (L : List Loc) : Prop := v = some (.int p1) ∧ Fr n0 L ∧ h = h0
theorem rmCkN (l : Launch) (Z : State) (a0 : Array Value) (hw : HW a0 Z) (ws : List Jvm.Cond) (p1 : Int32) (p2 : Int32) (h0 : Heap) (n0 : Nat) (O0 : Old Z n0 h0) (c1 : ¬ (p1 < (0 : Int32))) (c2 : p1 < p2) :
  MF l mN17 jdk_41_method_11_code 3 (some .int) ws (Rm 0 0 0 0) Z #[(.int p1), (.int p2), .null] h0 (Q_rmCkN Z p1 p2 h0 n0) := by
 refine MetFree.of_bodySF (plainFor_of_name pn_35) hisR ?_
 intro p e s m args below meth c s₁ Bd hml0 hP hK
 obtain ⟨rfl, hZ, hh⟩ := hP
 have hx := Bd.exec
 have hby := Bd.bytes
 have hml : c.maxLocals = 3 := hml0
 have hown : s.vm.findClass "jdk/internal/util/Preconditions" = some m.cls := findClass_of_methodNamed Bd.named
 have X0 : Stand p l e (Rm 0 0 0 0) s m #[(.int p1), (.int p2), .null] below meth c s₁ [] 0 0 := Stand.of_body Bd
 have e0 : s₁.heap = h0 := by rw [← hh, Bd.state]; rfl
 have N0 := Fr.nil n0
 have hn0 : n0 ≤ h0.size := O0.1 ▸ O0.2.1
 have pre0 : ∀ t, SS p e below s₁ m 0 #[vI p1, vI p2, .val .null] [] t → SE p e below s₁ m #[(.int p1), (.int p2), .null] 3 t := fun t k => castTop (ef_rmCkN m p1 p2) k
 obtain ⟨fs, hr, hrun, hended, hW, hsame⟩ := X0.leave (v := some (.int p1)) (nvr Bd.returns)
 refine ⟨_, _, pre0 _ ?_, hrun, hended, _, _, rfl, ?_, ⟨_, rfl⟩, hW, hsame.mono (by decide) (by decide)⟩
 ·skip
  show SS p e below s₁ m 0 #[vI p1, vI p2, .val .null] [] _
  refine XS.iloadN X0.here hx rfl (hb hby d35_0) rfl ?_
  refine XS.ifNo X0.here hx rfl (hb hby d35_1) rfl ((if0 _ _).trans (flt (c1 : ¬ (p1 < (0 : Int32)))).1) ?_
  refine XS.iloadN X0.here hx rfl (hb hby d35_4) rfl ?_
  refine XS.iloadN X0.here hx rfl (hb hby d35_5) rfl ?_
  refine XS.icmpYes X0.here hx rfl (pc0 := 6) (pc' := 16) rfl (hb hby d35_6) rfl (tlt (c2 : p1 < p2)).1 (by decide) (by decide) ?_
  refine XS.iloadN X0.here hx rfl (hb hby d35_16) rfl ?_
  show SS p e below s₁ m 17 #[vI p1, vI p2, .val .null] [(.int p1)] _
  exact retI X0 hx Bd.returns (hb hby d35_17) hr
 ·show Q_rmCkN Z p1 p2 h0 n0 _ s₁.heap _
  rw [e0]
  exact ⟨rfl, N0, rfl⟩
theorem ef_rmCkF (m : MethodId) (y0 : Int32) (y1 : Int32) (y2 : Addr) : entryFrame m #[(.int y0), (.int y1), (.ref y2)] 3 = (mkF m 0 #[vI y0, vI y1, vR y2] []) := by first | (simp [entryFrame, mkF, argsToLocals, Value.category]; done) | rfl
def Q_rmCkF (Z : State) (p1 : Int32) (p2 : Int32) (a3 : Addr) (h0 : Heap) (n0 : Nat) (v : Option Value) (h : Heap) (L : List Loc) : Prop := v = some (.int p1) ∧ Fr n0 L ∧ h = h0
theorem rmCkF (l : Launch) (Z : State) (a0 : Array Value) (hw : HW a0 Z) (ws : List Jvm.Cond) (p1 : Int32) (p2 : Int32) (a3 : Addr) (h0 : Heap) (n0 : Nat) (O0 : Old Z n0 h0) (c1 : ¬ (p1 < (0 : Int32))) (c2 : p1 < p2) :
  MF l mN17 jdk_41_method_11_code 3 (some .int) ws (Rm 0 0 0 0) Z #[(.int p1), (.int p2), (.ref a3)] h0 (Q_rmCkF Z p1 p2 a3 h0 n0) := by
 refine MetFree.of_bodySF (plainFor_of_name pn_35) hisR ?_
 intro p e s m args below meth c s₁ Bd hml0 hP hK
 obtain ⟨rfl, hZ, hh⟩ := hP
 have hx := Bd.exec
 have hby := Bd.bytes
 have hml : c.maxLocals = 3 := hml0
 have hown : s.vm.findClass "jdk/internal/util/Preconditions" = some m.cls := findClass_of_methodNamed Bd.named
 have X0 : Stand p l e (Rm 0 0 0 0) s m #[(.int p1), (.int p2), (.ref a3)] below meth c s₁ [] 0 0 := Stand.of_body Bd
 have e0 : s₁.heap = h0 := by rw [← hh, Bd.state]; rfl
 have N0 := Fr.nil n0
 have hn0 : n0 ≤ h0.size := O0.1 ▸ O0.2.1
 have pre0 : ∀ t, SS p e below s₁ m 0 #[vI p1, vI p2, vR a3] [] t → SE p e below s₁ m #[(.int p1), (.int p2), (.ref a3)] 3 t := fun t k => castTop (ef_rmCkF m p1 p2 a3) k
 obtain ⟨fs, hr, hrun, hended, hW, hsame⟩ := X0.leave (v := some (.int p1)) (nvr Bd.returns)
 refine ⟨_, _, pre0 _ ?_, hrun, hended, _, _, rfl, ?_, ⟨_, rfl⟩, hW, hsame.mono (by decide) (by decide)⟩
 ·skip
  show SS p e below s₁ m 0 #[vI p1, vI p2, vR a3] [] _
  refine XS.iloadN X0.here hx rfl (hb hby d35_0) rfl ?_
  refine XS.ifNo X0.here hx rfl (hb hby d35_1) rfl ((if0 _ _).trans (flt (c1 : ¬ (p1 < (0 : Int32)))).1) ?_
  refine XS.iloadN X0.here hx rfl (hb hby d35_4) rfl ?_
  refine XS.iloadN X0.here hx rfl (hb hby d35_5) rfl ?_
  refine XS.icmpYes X0.here hx rfl (pc0 := 6) (pc' := 16) rfl (hb hby d35_6) rfl (tlt (c2 : p1 < p2)).1 (by decide) (by decide) ?_
  refine XS.iloadN X0.here hx rfl (hb hby d35_16) rfl ?_
  show SS p e below s₁ m 17 #[vI p1, vI p2, vR a3] [(.int p1)] _
  exact retI X0 hx Bd.returns (hb hby d35_17) hr
 ·show Q_rmCkF Z p1 p2 a3 h0 n0 _ s₁.heap _
  rw [e0]
  exact ⟨rfl, N0, rfl⟩
theorem d34_0 : DK cD18 0 (.iload_n 0) 1 := by decide +kernel
theorem d34_1 : DK cD18 1 (.iload_n 1) 1 := by decide +kernel
theorem d34_2 : DK cD18 2 (.getstatic 1053) 3 := by decide +kernel
theorem d34_5 : DK cD18 5 (.invokestatic 1059) 3 := by decide +kernel
theorem d34_8 : DK cD18 8 (.pop) 1 := by decide +kernel
theorem d34_9 : DK cD18 9 (.return_) 1 := by decide +kernel
theorem pd_27 : parseMethodDescriptor "(IILjava/util/function/BiFunction;)I" = some ⟨[.int, .int, (.object "java/util/function/BiFunction")], some .int⟩ := by decide +kernel
theorem ef_rmCiN (m : MethodId) (y0 : Int32) (y1 : Int32) : entryFrame m #[(.int y0), (.int y1)] 2 = (mkF m 0 #[vI y0, vI y1] []) := by first | (simp [entryFrame, mkF, argsToLocals, Value.category]; done) | rfl
def Q_rmCiN (Z : State) (p1 : Int32) (p2 : Int32) (h0 : Heap) (n0 : Nat) (v : Option Value) (h : Heap) (L : List Loc) : Prop := v = none ∧ Fr n0 L ∧ h = h0
theorem rmCiN (l : Launch) (Z : State) (a0 : Array Value) (hw : HW a0 Z) (ws : List Jvm.Cond) (p1 : Int32) (p2 : Int32) (h0 : Heap) (n0 : Nat) (O0 : Old Z n0 h0) (S_FM : Sta Z Z.heap "jdk/internal/util/Preconditions" "SIOOBE_FORMATTER" "Ljava/util/function/BiFunction;" .null) (c1 : ¬ (p1 < (0 : Int32))) (c2 : p1 < p2) :
  MF l mN18 jdk_42_method_155_code 2 none ws (Rm 1 0 0 20) Z #[(.int p1), (.int p2)] h0 (Q_rmCiN Z p1 p2 h0 n0) := by
 refine MetFree.of_bodySF (plainFor_of_name pn_2) hisR ?_
 intro p e s m args below meth c s₁ Bd hml0 hP hK
 obtain ⟨rfl, hZ, hh⟩ := hP
 have hx := Bd.exec
 have hby := Bd.bytes
 have hml : c.maxLocals = 2 := hml0
 have hown : s.vm.findClass "java/lang/String" = some m.cls := findClass_of_methodNamed Bd.named
 have X0 : Stand p l e (Rm 1 0 0 20) s m #[(.int p1), (.int p2)] below meth c s₁ [] 0 0 := Stand.of_body Bd
 have e0 : s₁.heap = h0 := by rw [← hh, Bd.state]; rfl
 have N0 := Fr.nil n0
 have hn0 : n0 ≤ h0.size := O0.1 ▸ O0.2.1
 have pre0 : ∀ t, SS p e below s₁ m 0 #[vI p1, vI p2] [] t → SE p e below s₁ m #[(.int p1), (.int p2)] 2 t := fun t k => castTop (ef_rmCiN m p1 p2) k
 obtain ⟨T101, X101, e101, st101⟩ := getS2 X0 hx hZ hown (host := "") (Or.inl (tw hw 177 rfl)) Via.refl e0 (Sta.ext O0.2 S_FM) (g := (mkF m 2 #[vI p1, vI p2] [(.int p2), (.int p1)])) rfl (hb hby d34_2)
 obtain ⟨_, _, ⟨T102, L102, k102, n102⟩, -, X102, ⟨Lc102, hQ102, l102, y102, z102⟩, st102⟩ := Jvm.LawKit.callS X101 hx (y := mN17) hown (mvT hZ (tw hw 179 rfl)) (mvT hZ (tw hw 180 rfl)) (mvT hZ (tw hw 178 rfl)) (mvT hZ (tw hw 181 rfl)) (by decide) (backOf (W := 0) (rmCkN l Z a0 hw [] p1 p2  h0 n0 O0 c1 c2) hZ (tw hw 181 rfl) (tw hw 178 rfl) (by decide) (by decide)) (g := (mkF m 5 #[vI p1, vI p2] [.null, (.int p2), (.int p1)])) rfl (by rw [hml]; rfl) (argsL := [(.int p1), (.int p2), .null]) (rest := []) (lenOf pd_27 rfl) rfl (wL _) (hb hby d34_5) (fun _ _ => ⟨rfl, e101, (by decide : 0 + 0 ≤ _), (by decide : 0 + 0 ≤ _)⟩)
 dsimp only [Pt.U, Pt.locs, Pt.cells, Pt.slots] at X102 l102 y102 z102 st102 hQ102
 subst l102 y102 z102
 obtain ⟨rfl, N102q, H102⟩ := hQ102
 have N102 := Fr.app N0 N102q
 obtain ⟨fs, hr, hrun, hended, hW, hsame⟩ := X102.leave (v := none) (fun _ => rfl)
 refine ⟨_, _, pre0 _ ?_, hrun, hended, _, _, rfl, ?_, ⟨_, rfl⟩, hW, hsame.mono (by decide) (by decide)⟩
 ·skip
  show SS p e below s₁ m 0 #[vI p1, vI p2] [] _
  refine XS.iloadN X0.here hx rfl (hb hby d34_0) rfl ?_
  refine XS.iloadN X0.here hx rfl (hb hby d34_1) rfl ?_
  show SS p e below s₁ m 2 #[vI p1, vI p2] [(.int p2), (.int p1)] _
  refine st101 _ ?_
  show SS p e below T101 m 5 #[vI p1, vI p2] [.null, (.int p2), (.int p1)] _
  refine st102 _ ?_
  refine XS.pop X102.here hx rfl (hb hby d34_8) rfl rfl ?_
  show SS p e below T102 m 9 #[vI p1, vI p2] [] _
  exact X102.returnOut hx Bd.returns (hb hby d34_9) hr
 ·show Q_rmCiN Z p1 p2 h0 n0 _ T102.heap _
  rw [H102]
  exact ⟨rfl, N102, rfl⟩
theorem ef_rmCiF (m : MethodId) (y0 : Int32) (y1 : Int32) : entryFrame m #[(.int y0), (.int y1)] 2 = (mkF m 0 #[vI y0, vI y1] []) := by first | (simp [entryFrame, mkF, argsToLocals, Value.category]; done) | rfl
def Q_rmCiF (Z : State) (p1 : Int32) (p2 : Int32) (fm : Addr) (h0 : Heap) (n0 : Nat) (v : Option Value) (h : Heap) (L : List Loc) : Prop := v = none ∧ Fr n0 L ∧ h = h0
theorem rmCiF (l : Launch) (Z : State) (a0 : Array Value) (hw : HW a0 Z) (ws : List Jvm.Cond) (p1 : Int32) (p2 : Int32) (fm : Addr) (h0 : Heap) (n0 : Nat) (O0 : Old Z n0 h0) (S_FM : Sta Z Z.heap "jdk/internal/util/Preconditions" "SIOOBE_FORMATTER" "Ljava/util/function/BiFunction;" (.ref fm)) (c1 : ¬ (p1 < (0 : Int32))) (c2 : p1 < p2) :
  MF l mN18 jdk_42_method_155_code 2 none ws (Rm 1 0 0 20) Z #[(.int p1), (.int p2)] h0 (Q_rmCiF Z p1 p2 fm h0 n0) := by
 refine MetFree.of_bodySF (plainFor_of_name pn_2) hisR ?_
 intro p e s m args below meth c s₁ Bd hml0 hP hK
 obtain ⟨rfl, hZ, hh⟩ := hP
 have hx := Bd.exec
 have hby := Bd.bytes
 have hml : c.maxLocals = 2 := hml0
 have hown : s.vm.findClass "java/lang/String" = some m.cls := findClass_of_methodNamed Bd.named
 have X0 : Stand p l e (Rm 1 0 0 20) s m #[(.int p1), (.int p2)] below meth c s₁ [] 0 0 := Stand.of_body Bd
 have e0 : s₁.heap = h0 := by rw [← hh, Bd.state]; rfl
 have N0 := Fr.nil n0
 have hn0 : n0 ≤ h0.size := O0.1 ▸ O0.2.1
 have pre0 : ∀ t, SS p e below s₁ m 0 #[vI p1, vI p2] [] t → SE p e below s₁ m #[(.int p1), (.int p2)] 2 t := fun t k => castTop (ef_rmCiF m p1 p2) k
 obtain ⟨T101, X101, e101, st101⟩ := getS2 X0 hx hZ hown (host := "") (Or.inl (tw hw 177 rfl)) Via.refl e0 (Sta.ext O0.2 S_FM) (g := (mkF m 2 #[vI p1, vI p2] [(.int p2), (.int p1)])) rfl (hb hby d34_2)
 obtain ⟨_, _, ⟨T102, L102, k102, n102⟩, -, X102, ⟨Lc102, hQ102, l102, y102, z102⟩, st102⟩ := Jvm.LawKit.callS X101 hx (y := mN17) hown (mvT hZ (tw hw 179 rfl)) (mvT hZ (tw hw 180 rfl)) (mvT hZ (tw hw 178 rfl)) (mvT hZ (tw hw 181 rfl)) (by decide) (backOf (W := 0) (rmCkF l Z a0 hw [] p1 p2 fm  h0 n0 O0 c1 c2) hZ (tw hw 181 rfl) (tw hw 178 rfl) (by decide) (by decide)) (g := (mkF m 5 #[vI p1, vI p2] [(.ref fm), (.int p2), (.int p1)])) rfl (by rw [hml]; rfl) (argsL := [(.int p1), (.int p2), (.ref fm)]) (rest := []) (lenOf pd_27 rfl) rfl (wL _) (hb hby d34_5) (fun _ _ => ⟨rfl, e101, (by decide : 0 + 0 ≤ _), (by decide : 0 + 0 ≤ _)⟩)
 dsimp only [Pt.U, Pt.locs, Pt.cells, Pt.slots] at X102 l102 y102 z102 st102 hQ102
 subst l102 y102 z102
 obtain ⟨rfl, N102q, H102⟩ := hQ102
 have N102 := Fr.app N0 N102q
 obtain ⟨fs, hr, hrun, hended, hW, hsame⟩ := X102.leave (v := none) (fun _ => rfl)
 refine ⟨_, _, pre0 _ ?_, hrun, hended, _, _, rfl, ?_, ⟨_, rfl⟩, hW, hsame.mono (by decide) (by decide)⟩
 ·skip
  show SS p e below s₁ m 0 #[vI p1, vI p2] [] _
  refine XS.iloadN X0.here hx rfl (hb hby d34_0) rfl ?_
  refine XS.iloadN X0.here hx rfl (hb hby d34_1) rfl ?_
  show SS p e below s₁ m 2 #[vI p1, vI p2] [(.int p2), (.int p1)] _
  refine st101 _ ?_
  show SS p e below T101 m 5 #[vI p1, vI p2] [(.ref fm), (.int p2), (.int p1)] _
  refine st102 _ ?_
  refine XS.pop X102.here hx rfl (hb hby d34_8) rfl rfl ?_
  show SS p e below T102 m 9 #[vI p1, vI p2] [] _
  exact X102.returnOut hx Bd.returns (hb hby d34_9) hr
 ·show Q_rmCiF Z p1 p2 fm h0 n0 _ T102.heap _
  rw [H102]
  exact ⟨rfl, N102, rfl⟩
def Q_rmCi (Z : State) (p1 p2 : Int32) (fm : Value) (h0 : Heap) (n0 : Nat) (v : Option Value) (h : Heap) (L : List Loc) : Prop := v = none ∧ Fr n0 L ∧ h = h0
theorem rmCi (l : Launch) (Z : State) (a0 : Array Value) (hw : HW a0 Z) (ws : List Jvm.Cond) (p1 p2 : Int32) (fm : Value) (h0 : Heap) (n0 : Nat) (O0 : Old Z n0 h0) (S_FM : SFM Z fm) (r_FM : fm.isRef = true) (c1 : ¬ (p1 < (0 : Int32))) (c2 : p1 < p2) :
  MF l mN18 jdk_42_method_155_code 2 none ws (Rm 1 0 0 20) Z #[(.int p1), (.int p2)] h0 (Q_rmCi Z p1 p2 fm h0 n0) := by
 rcases ref_cases r_FM with rfl | ⟨a, rfl⟩
 ·exact rmCiN l Z a0 hw ws p1 p2 h0 n0 O0 S_FM c1 c2
 ·exact rmCiF l Z a0 hw ws p1 p2 a h0 n0 O0 S_FM c1 c2
theorem d23_0 : DK cD19 0 (.getstatic 18) 3 := by decide +kernel
theorem d23_3 : DK cD19 3 (.ifCond .eq 14) 3 := by decide +kernel
theorem d23_6 : DK cD19 6 (.aload_n 0) 1 := by decide +kernel
theorem d23_7 : DK cD19 7 (.getfield 22) 3 := by decide +kernel
theorem d23_10 : DK cD19 10 (.ifCond .ne 7) 3 := by decide +kernel
theorem d23_13 : DK cD19 13 (.iconst 1) 1 := by decide +kernel
theorem d23_14 : DK cD19 14 (.goto 4) 3 := by decide +kernel
theorem d23_18 : DK cD19 18 (.ireturn) 1 := by decide +kernel
theorem pn_7 : plainName "java/lang/AbstractStringBuilder" = true := by first | (simp [plainName, overriddenIn]; done) | decide +kernel
theorem ef_rmBLatL (m : MethodId) (y0 : Addr) : entryFrame m #[(.ref y0)] 1 = (mkF m 0 #[vR y0] []) := by first | (simp [entryFrame, mkF, argsToLocals, Value.category]; done) | rfl
def Q_rmBLatL (Z : State) (a1 : Addr) (cs : List Int32) (cs0 : Int32) (v1 : Addr) (kv : ClassId) (nn : Nat) (ml : Int32) (h0 : Heap) (n0 : Nat) (v : Option Value) (h : Heap) (L : List Loc) : Prop := v = some (.int 1) ∧ Fr n0 L ∧ h = h0
theorem rmBLatL (l : Launch) (Z : State) (a0 : Array Value) (hw : HW a0 Z) (ws : List Jvm.Cond) (a1 : Addr) (cs : List Int32) (cs0 : Int32) (v1 : Addr) (kv : ClassId) (nn : Nat) (ml : Int32) (h0 : Heap) (n0 : Nat) (O0 : Old Z n0 h0) (S_CS : SCS Z cs0) (c_CS : ¬ (cs0 = (0 : Int32))) (Eb : Exa Z h0 a1 "java/lang/StringBuilder") (Bv : Fld Z h0 a1 "java/lang/AbstractStringBuilder" "value" "[B" (.ref v1)) (Bc : Fld Z h0 a1 "java/lang/AbstractStringBuilder" "coder" "B" (.int 0)) (Bn : Fld Z h0 a1 "java/lang/AbstractStringBuilder" "count" "I" (.int (oN nn))) (Bm : Fld Z h0 a1 "java/lang/AbstractStringBuilder" "maybeLatin1" "Z" (.int ml)) (Vb : Arv Z h0 v1 kv .byte (oN (nn + 16)) ((lat cs).map Value.int) (.int 0)) :
  MF l mN19 jdk_68_method_68_code 1 (some .boolean) ws (Rm 0 0 0 0) Z #[(.ref a1)] h0 (Q_rmBLatL Z a1 cs cs0 v1 kv nn ml h0 n0) := by
 refine MetFree.of_bodySF (plainFor_of_name pn_7) hisR ?_
 intro p e s m args below meth c s₁ Bd hml0 hP hK
 obtain ⟨rfl, hZ, hh⟩ := hP
 have hx := Bd.exec
 have hby := Bd.bytes
 have hml : c.maxLocals = 1 := hml0
 have hown : s.vm.findClass "java/lang/AbstractStringBuilder" = some m.cls := findClass_of_methodNamed Bd.named
 have X0 : Stand p l e (Rm 0 0 0 0) s m #[(.ref a1)] below meth c s₁ [] 0 0 := Stand.of_body Bd
 have e0 : s₁.heap = h0 := by rw [← hh, Bd.state]; rfl
 have N0 := Fr.nil n0
 have hn0 : n0 ≤ h0.size := O0.1 ▸ O0.2.1
 have pre0 : ∀ t, SS p e below s₁ m 0 #[vR a1] [] t → SE p e below s₁ m #[(.ref a1)] 1 t := fun t k => castTop (ef_rmBLatL m a1) k
 obtain ⟨T101, X101, e101, st101⟩ := getS2 X0 hx hZ hown (host := "") (Or.inl (tw hw 92 rfl)) Via.refl e0 (Sta.ext O0.2 S_CS) (g := (mkF m 0 #[vR a1] [])) rfl (hb hby d23_0)
 obtain ⟨T102, X102, e102, st102⟩ := getF X101 hx hZ hown (host := "") (Or.inl (tw hw 57 rfl)) Via.refl e101 Bc (g := (mkF m 7 #[vR a1] [(.ref a1)])) rfl rfl (hb hby d23_7)
 obtain ⟨fs, hr, hrun, hended, hW, hsame⟩ := X102.leave (v := some (.int 1)) (nvr Bd.returns)
 refine ⟨_, _, pre0 _ ?_, hrun, hended, _, _, rfl, ?_, ⟨_, rfl⟩, hW, hsame.mono (by decide) (by decide)⟩
 ·skip
  show SS p e below s₁ m 0 #[vR a1] [] _
  refine st101 _ ?_
  refine XS.ifNo X101.here hx rfl (hb hby d23_3) rfl ((if0 _ _).trans (feq (c_CS : ¬ (cs0 = (0 : Int32)))).1) ?_
  refine XS.aloadN X101.here hx rfl (hb hby d23_6) rfl rfl ?_
  show SS p e below T101 m 7 #[vR a1] [(.ref a1)] _
  refine st102 _ ?_
  refine XS.ifNo X102.here hx rfl (hb hby d23_10) rfl ((if0 _ _).trans (teq (by decide : (0 : Int32) = (0 : Int32))).2) ?_
  refine XS.iconst X102.here hx rfl (hb hby d23_13) ?_
  refine XS.goto X102.here hx rfl (pc0 := 14) (pc' := 18) rfl (hb hby d23_14) (by decide) (by decide) ?_
  show SS p e below T102 m 18 #[vR a1] [(.int 1)] _
  exact retN X102 hx (t := .boolean) Bd.returns (by simp) (hb hby d23_18) hr
 ·show Q_rmBLatL Z a1 cs cs0 v1 kv nn ml h0 n0 _ T102.heap _
  rw [e102]
  exact ⟨rfl, N0, rfl⟩
theorem d18_0 : DK cD20 0 (.aload_n 0) 1 := by decide +kernel
theorem d18_1 : DK cD20 1 (.getfield 79) 3 := by decide +kernel
theorem d18_4 : DK cD20 4 (.ireturn) 1 := by decide +kernel
theorem ef_rmALenL (m : MethodId) (y0 : Addr) : entryFrame m #[(.ref y0)] 1 = (mkF m 0 #[vR y0] []) := by first | (simp [entryFrame, mkF, argsToLocals, Value.category]; done) | rfl
def Q_rmALenL (Z : State) (a1 : Addr) (cs : List Int32) (cs0 : Int32) (v1 : Addr) (kv : ClassId) (nn : Nat) (ml : Int32) (h0 : Heap) (n0 : Nat) (v : Option Value) (h : Heap) (L : List Loc) : Prop := v = some (.int (oN nn)) ∧ Fr n0 L ∧ h = h0
theorem rmALenL (l : Launch) (Z : State) (a0 : Array Value) (hw : HW a0 Z) (ws : List Jvm.Cond) (a1 : Addr) (cs : List Int32) (cs0 : Int32) (v1 : Addr) (kv : ClassId) (nn : Nat) (ml : Int32) (h0 : Heap) (n0 : Nat) (O0 : Old Z n0 h0) (S_CS : SCS Z cs0) (c_CS : ¬ (cs0 = (0 : Int32))) (Eb : Exa Z h0 a1 "java/lang/StringBuilder") (Bv : Fld Z h0 a1 "java/lang/AbstractStringBuilder" "value" "[B" (.ref v1)) (Bc : Fld Z h0 a1 "java/lang/AbstractStringBuilder" "coder" "B" (.int 0)) (Bn : Fld Z h0 a1 "java/lang/AbstractStringBuilder" "count" "I" (.int (oN nn))) (Bm : Fld Z h0 a1 "java/lang/AbstractStringBuilder" "maybeLatin1" "Z" (.int ml)) (Vb : Arv Z h0 v1 kv .byte (oN (nn + 16)) ((lat cs).map Value.int) (.int 0)) :
  MF l mN20 jdk_68_method_6_code 1 (some .int) ws (Rm 0 0 0 0) Z #[(.ref a1)] h0 (Q_rmALenL Z a1 cs cs0 v1 kv nn ml h0 n0) := by
 refine MetFree.of_bodySF (plainFor_of_name pn_7) hisR ?_
 intro p e s m args below meth c s₁ Bd hml0 hP hK
 obtain ⟨rfl, hZ, hh⟩ := hP
 have hx := Bd.exec
 have hby := Bd.bytes
 have hml : c.maxLocals = 1 := hml0
 have hown : s.vm.findClass "java/lang/AbstractStringBuilder" = some m.cls := findClass_of_methodNamed Bd.named
 have X0 : Stand p l e (Rm 0 0 0 0) s m #[(.ref a1)] below meth c s₁ [] 0 0 := Stand.of_body Bd
 have e0 : s₁.heap = h0 := by rw [← hh, Bd.state]; rfl
 have N0 := Fr.nil n0
 have hn0 : n0 ≤ h0.size := O0.1 ▸ O0.2.1
 have pre0 : ∀ t, SS p e below s₁ m 0 #[vR a1] [] t → SE p e below s₁ m #[(.ref a1)] 1 t := fun t k => castTop (ef_rmALenL m a1) k
 obtain ⟨T101, X101, e101, st101⟩ := getF X0 hx hZ hown (host := "") (Or.inl (tw hw 75 rfl)) Via.refl e0 Bn (g := (mkF m 1 #[vR a1] [(.ref a1)])) rfl rfl (hb hby d18_1)
 obtain ⟨fs, hr, hrun, hended, hW, hsame⟩ := X101.leave (v := some (.int (oN nn))) (nvr Bd.returns)
 refine ⟨_, _, pre0 _ ?_, hrun, hended, _, _, rfl, ?_, ⟨_, rfl⟩, hW, hsame.mono (by decide) (by decide)⟩
 ·skip
  show SS p e below s₁ m 0 #[vR a1] [] _
  refine XS.aloadN X0.here hx rfl (hb hby d18_0) rfl rfl ?_
  show SS p e below s₁ m 1 #[vR a1] [(.ref a1)] _
  refine st101 _ ?_
  show SS p e below T101 m 4 #[vR a1] [(.int (oN nn))] _
  exact retI X101 hx Bd.returns (hb hby d18_4) hr
 ·show Q_rmALenL Z a1 cs cs0 v1 kv nn ml h0 n0 _ T101.heap _
  rw [e101]
  exact ⟨rfl, N0, rfl⟩
theorem d17_0 : DK cD21 0 (.aload_n 0) 1 := by decide +kernel
theorem d17_1 : DK cD21 1 (.invokespecial 343) 3 := by decide +kernel
theorem d17_4 : DK cD21 4 (.ireturn) 1 := by decide +kernel
theorem pn_6 : plainName "java/lang/StringBuilder" = true := by first | (simp [plainName, overriddenIn]; done) | decide +kernel
theorem pd_6 : parseMethodDescriptor "()I" = some ⟨[], some .int⟩ := by decide +kernel
theorem ef_rmBLenL (m : MethodId) (y0 : Addr) : entryFrame m #[(.ref y0)] 1 = (mkF m 0 #[vR y0] []) := by first | (simp [entryFrame, mkF, argsToLocals, Value.category]; done) | rfl
def Q_rmBLenL (Z : State) (a1 : Addr) (cs : List Int32) (cs0 : Int32) (v1 : Addr) (kv : ClassId) (nn : Nat) (ml : Int32) (h0 : Heap) (n0 : Nat) (v : Option Value) (h : Heap) (L : List Loc) : Prop := v = some (.int (oN nn)) ∧ Fr n0 L ∧ h = h0
theorem rmBLenL (l : Launch) (Z : State) (a0 : Array Value) (hw : HW a0 Z) (ws : List Jvm.Cond) (a1 : Addr) (cs : List Int32) (cs0 : Int32) (v1 : Addr) (kv : ClassId) (nn : Nat) (ml : Int32) (h0 : Heap) (n0 : Nat) (O0 : Old Z n0 h0) (S_CS : SCS Z cs0) (c_CS : ¬ (cs0 = (0 : Int32))) (Eb : Exa Z h0 a1 "java/lang/StringBuilder") (Bv : Fld Z h0 a1 "java/lang/AbstractStringBuilder" "value" "[B" (.ref v1)) (Bc : Fld Z h0 a1 "java/lang/AbstractStringBuilder" "coder" "B" (.int 0)) (Bn : Fld Z h0 a1 "java/lang/AbstractStringBuilder" "count" "I" (.int (oN nn))) (Bm : Fld Z h0 a1 "java/lang/AbstractStringBuilder" "maybeLatin1" "Z" (.int ml)) (Vb : Arv Z h0 v1 kv .byte (oN (nn + 16)) ((lat cs).map Value.int) (.int 0)) :
  MF l mN21 jdk_67_method_93_code 1 (some .int) ws (Rm 1 0 0 20) Z #[(.ref a1)] h0 (Q_rmBLenL Z a1 cs cs0 v1 kv nn ml h0 n0) := by
 refine MetFree.of_bodySF (plainFor_of_name pn_6) hisR ?_
 intro p e s m args below meth c s₁ Bd hml0 hP hK
 obtain ⟨rfl, hZ, hh⟩ := hP
 have hx := Bd.exec
 have hby := Bd.bytes
 have hml : c.maxLocals = 1 := hml0
 have hown : s.vm.findClass "java/lang/StringBuilder" = some m.cls := findClass_of_methodNamed Bd.named
 have X0 : Stand p l e (Rm 1 0 0 20) s m #[(.ref a1)] below meth c s₁ [] 0 0 := Stand.of_body Bd
 have e0 : s₁.heap = h0 := by rw [← hh, Bd.state]; rfl
 have N0 := Fr.nil n0
 have hn0 : n0 ≤ h0.size := O0.1 ▸ O0.2.1
 have pre0 : ∀ t, SS p e below s₁ m 0 #[vR a1] [] t → SE p e below s₁ m #[(.ref a1)] 1 t := fun t k => castTop (ef_rmBLenL m a1) k
 obtain ⟨_, _, ⟨T101, L101, k101, n101⟩, -, X101, ⟨Lc101, hQ101, l101, y101, z101⟩, st101⟩ := superBack X0 hx hZ hown (tw hw 107 rfl) (own_same (tw hw 108 rfl) (own_nface (a0 := a0) (y := mN20) (tw hw 80 rfl) rfl) (by decide)) (tw hw 108 rfl) (tw hw 73 rfl) (by decide) (backOf (W := 0) (rmALenL l Z a0 hw [] a1 cs cs0 v1 kv nn ml h0 n0 O0 S_CS c_CS Eb Bv Bc Bn Bm Vb) hZ (tw hw 110 rfl) (tw hw 41 rfl) (by decide) (by decide)) e0 (Ins.self Eb) (g := (mkF m 1 #[vR a1] [(.ref a1)])) rfl (by rw [hml]; rfl) (tw hw 110 rfl) (a := a1) (argsL := []) (rest := []) (lenOf pd_6 rfl) rfl (wL _) (hb hby d17_1) (fun _ _ => ⟨rfl, e0, (by decide : 0 + 0 ≤ _), (by decide : 0 + 0 ≤ _)⟩)
 dsimp only [Pt.U, Pt.locs, Pt.cells, Pt.slots] at X101 l101 y101 z101 st101 hQ101
 subst l101 y101 z101
 obtain ⟨rfl, N101q, H101⟩ := hQ101
 have N101 := Fr.app N0 N101q
 obtain ⟨fs, hr, hrun, hended, hW, hsame⟩ := X101.leave (v := some (.int (oN nn))) (nvr Bd.returns)
 refine ⟨_, _, pre0 _ ?_, hrun, hended, _, _, rfl, ?_, ⟨_, rfl⟩, hW, hsame.mono (by decide) (by decide)⟩
 ·skip
  show SS p e below s₁ m 0 #[vR a1] [] _
  refine XS.aloadN X0.here hx rfl (hb hby d17_0) rfl rfl ?_
  show SS p e below s₁ m 1 #[vR a1] [(.ref a1)] _
  refine st101.trans ?_
  show SS p e below T101 m 4 #[vR a1] [(.int (oN nn))] _
  exact retI X101 hx Bd.returns (hb hby d17_4) hr
 ·show Q_rmBLenL Z a1 cs cs0 v1 kv nn ml h0 n0 _ T101.heap _
  rw [H101]
  exact ⟨rfl, N101, rfl⟩
theorem d22_0 : DK cD22 0 (.aload_n 0) 1 := by decide +kernel
theorem d22_1 : DK cD22 1 (.getfield 15) 3 := by decide +kernel
theorem d22_4 : DK cD22 4 (.areturn) 1 := by decide +kernel
theorem ef_rmGValL (m : MethodId) (y0 : Addr) : entryFrame m #[(.ref y0)] 1 = (mkF m 0 #[vR y0] []) := by first | (simp [entryFrame, mkF, argsToLocals, Value.category]; done) | rfl
def Q_rmGValL (Z : State) (a1 : Addr) (cs : List Int32) (cs0 : Int32) (v1 : Addr) (kv : ClassId) (nn : Nat) (ml : Int32) (h0 : Heap) (n0 : Nat) (v : Option Value) (h : Heap) (L : List Loc) : Prop := v = some (.ref v1) ∧ Fr n0 L ∧ h = h0
theorem rmGValL (l : Launch) (Z : State) (a0 : Array Value) (hw : HW a0 Z) (ws : List Jvm.Cond) (a1 : Addr) (cs : List Int32) (cs0 : Int32) (v1 : Addr) (kv : ClassId) (nn : Nat) (ml : Int32) (h0 : Heap) (n0 : Nat) (O0 : Old Z n0 h0) (S_CS : SCS Z cs0) (c_CS : ¬ (cs0 = (0 : Int32))) (Eb : Exa Z h0 a1 "java/lang/StringBuilder") (Bv : Fld Z h0 a1 "java/lang/AbstractStringBuilder" "value" "[B" (.ref v1)) (Bc : Fld Z h0 a1 "java/lang/AbstractStringBuilder" "coder" "B" (.int 0)) (Bn : Fld Z h0 a1 "java/lang/AbstractStringBuilder" "count" "I" (.int (oN nn))) (Bm : Fld Z h0 a1 "java/lang/AbstractStringBuilder" "maybeLatin1" "Z" (.int ml)) (Vb : Arv Z h0 v1 kv .byte (oN (nn + 16)) ((lat cs).map Value.int) (.int 0)) :
  MF l mN22 jdk_68_method_64_code 1 (some (.array .byte)) ws (Rm 0 0 0 0) Z #[(.ref a1)] h0 (Q_rmGValL Z a1 cs cs0 v1 kv nn ml h0 n0) := by
 refine MetFree.of_bodySF (plainFor_of_name pn_7) hisR ?_
 intro p e s m args below meth c s₁ Bd hml0 hP hK
 obtain ⟨rfl, hZ, hh⟩ := hP
 have hx := Bd.exec
 have hby := Bd.bytes
 have hml : c.maxLocals = 1 := hml0
 have hown : s.vm.findClass "java/lang/AbstractStringBuilder" = some m.cls := findClass_of_methodNamed Bd.named
 have X0 : Stand p l e (Rm 0 0 0 0) s m #[(.ref a1)] below meth c s₁ [] 0 0 := Stand.of_body Bd
 have e0 : s₁.heap = h0 := by rw [← hh, Bd.state]; rfl
 have N0 := Fr.nil n0
 have hn0 : n0 ≤ h0.size := O0.1 ▸ O0.2.1
 have pre0 : ∀ t, SS p e below s₁ m 0 #[vR a1] [] t → SE p e below s₁ m #[(.ref a1)] 1 t := fun t k => castTop (ef_rmGValL m a1) k
 obtain ⟨T101, X101, e101, st101⟩ := getF X0 hx hZ hown (host := "") (Or.inl (tw hw 59 rfl)) Via.refl e0 Bv (g := (mkF m 1 #[vR a1] [(.ref a1)])) rfl rfl (hb hby d22_1)
 obtain ⟨fs, hr, hrun, hended, hW, hsame⟩ := X101.leave (v := some (.ref v1)) (nvr Bd.returns)
 refine ⟨_, _, pre0 _ ?_, hrun, hended, _, _, rfl, ?_, ⟨_, rfl⟩, hW, hsame.mono (by decide) (by decide)⟩
 ·skip
  show SS p e below s₁ m 0 #[vR a1] [] _
  refine XS.aloadN X0.here hx rfl (hb hby d22_0) rfl rfl ?_
  show SS p e below s₁ m 1 #[vR a1] [(.ref a1)] _
  refine st101 _ ?_
  show SS p e below T101 m 4 #[vR a1] [(.ref v1)] _
  exact X101.areturnOut hx rfl Bd.returns rfl (hb hby d22_4) hr
 ·show Q_rmGValL Z a1 cs cs0 v1 kv nn ml h0 n0 _ T101.heap _
  rw [e101]
  exact ⟨rfl, N0, rfl⟩
theorem d23_17 : DK cD19 17 (.iconst 0) 1 := by decide +kernel
theorem ef_rmBLatU (m : MethodId) (y0 : Addr) : entryFrame m #[(.ref y0)] 1 = (mkF m 0 #[vR y0] []) := by first | (simp [entryFrame, mkF, argsToLocals, Value.category]; done) | rfl
def Q_rmBLatU (Z : State) (a1 : Addr) (cs : List Int32) (cs0 : Int32) (v1 : Addr) (kv : ClassId) (nn : Nat) (ml : Int32) (h0 : Heap) (n0 : Nat) (v : Option Value) (h : Heap) (L : List Loc) : Prop := v = some (.int 0) ∧ Fr n0 L ∧ h = h0
theorem rmBLatU (l : Launch) (Z : State) (a0 : Array Value) (hw : HW a0 Z) (ws : List Jvm.Cond) (a1 : Addr) (cs : List Int32) (cs0 : Int32) (v1 : Addr) (kv : ClassId) (nn : Nat) (ml : Int32) (h0 : Heap) (n0 : Nat) (O0 : Old Z n0 h0) (S_CS : SCS Z cs0) (c_CS : ¬ (cs0 = (0 : Int32))) (Eb : Exa Z h0 a1 "java/lang/StringBuilder") (Bv : Fld Z h0 a1 "java/lang/AbstractStringBuilder" "value" "[B" (.ref v1)) (Bc : Fld Z h0 a1 "java/lang/AbstractStringBuilder" "coder" "B" (.int 1)) (Bn : Fld Z h0 a1 "java/lang/AbstractStringBuilder" "count" "I" (.int (oN nn))) (Bm : Fld Z h0 a1 "java/lang/AbstractStringBuilder" "maybeLatin1" "Z" (.int ml)) (Vb : Arv Z h0 v1 kv .byte (oN (2 * (nn + 16))) (u16 cs) (.int 0)) :
  MF l mN19 jdk_68_method_68_code 1 (some .boolean) ws (Rm 0 0 0 0) Z #[(.ref a1)] h0 (Q_rmBLatU Z a1 cs cs0 v1 kv nn ml h0 n0) := by
 refine MetFree.of_bodySF (plainFor_of_name pn_7) hisR ?_
 intro p e s m args below meth c s₁ Bd hml0 hP hK
 obtain ⟨rfl, hZ, hh⟩ := hP
 have hx := Bd.exec
 have hby := Bd.bytes
 have hml : c.maxLocals = 1 := hml0
 have hown : s.vm.findClass "java/lang/AbstractStringBuilder" = some m.cls := findClass_of_methodNamed Bd.named
 have X0 : Stand p l e (Rm 0 0 0 0) s m #[(.ref a1)] below meth c s₁ [] 0 0 := Stand.of_body Bd
 have e0 : s₁.heap = h0 := by rw [← hh, Bd.state]; rfl
 have N0 := Fr.nil n0
 have hn0 : n0 ≤ h0.size := O0.1 ▸ O0.2.1
 have pre0 : ∀ t, SS p e below s₁ m 0 #[vR a1] [] t → SE p e below s₁ m #[(.ref a1)] 1 t := fun t k => castTop (ef_rmBLatU m a1) k
 obtain ⟨T101, X101, e101, st101⟩ := getS2 X0 hx hZ hown (host := "") (Or.inl (tw hw 92 rfl)) Via.refl e0 (Sta.ext O0.2 S_CS) (g := (mkF m 0 #[vR a1] [])) rfl (hb hby d23_0)
 obtain ⟨T102, X102, e102, st102⟩ := getF X101 hx hZ hown (host := "") (Or.inl (tw hw 57 rfl)) Via.refl e101 Bc (g := (mkF m 7 #[vR a1] [(.ref a1)])) rfl rfl (hb hby d23_7)
 obtain ⟨fs, hr, hrun, hended, hW, hsame⟩ := X102.leave (v := some (.int 0)) (nvr Bd.returns)
 refine ⟨_, _, pre0 _ ?_, hrun, hended, _, _, rfl, ?_, ⟨_, rfl⟩, hW, hsame.mono (by decide) (by decide)⟩
 ·skip
  show SS p e below s₁ m 0 #[vR a1] [] _
  refine st101 _ ?_
  refine XS.ifNo X101.here hx rfl (hb hby d23_3) rfl ((if0 _ _).trans (feq (c_CS : ¬ (cs0 = (0 : Int32)))).1) ?_
  refine XS.aloadN X101.here hx rfl (hb hby d23_6) rfl rfl ?_
  show SS p e below T101 m 7 #[vR a1] [(.ref a1)] _
  refine st102 _ ?_
  refine XS.ifYes X102.here hx rfl (pc0 := 10) (pc' := 17) rfl (hb hby d23_10) rfl ((if0 _ _).trans (feq (by decide : ¬ ((1 : Int32) = (0 : Int32)))).2) (by decide) (by decide) ?_
  refine XS.iconst X102.here hx rfl (hb hby d23_17) ?_
  show SS p e below T102 m 18 #[vR a1] [(.int 0)] _
  exact retN X102 hx (t := .boolean) Bd.returns (by simp) (hb hby d23_18) hr
 ·show Q_rmBLatU Z a1 cs cs0 v1 kv nn ml h0 n0 _ T102.heap _
  rw [e102]
  exact ⟨rfl, N0, rfl⟩
theorem ef_rmALenU (m : MethodId) (y0 : Addr) : entryFrame m #[(.ref y0)] 1 = (mkF m 0 #[vR y0] []) := by first | (simp [entryFrame, mkF, argsToLocals, Value.category]; done) | rfl
def Q_rmALenU (Z : State) (a1 : Addr) (cs : List Int32) (cs0 : Int32) (v1 : Addr) (kv : ClassId) (nn : Nat) (ml : Int32) (h0 : Heap) (n0 : Nat) (v : Option Value) (h : Heap) (L : List Loc) : Prop := v = some (.int (oN nn)) ∧ Fr n0 L ∧ h = h0
theorem rmALenU (l : Launch) (Z : State) (a0 : Array Value) (hw : HW a0 Z) (ws : List Jvm.Cond) (a1 : Addr) (cs : List Int32) (cs0 : Int32) (v1 : Addr) (kv : ClassId) (nn : Nat) (ml : Int32) (h0 : Heap) (n0 : Nat) (O0 : Old Z n0 h0) (S_CS : SCS Z cs0) (c_CS : ¬ (cs0 = (0 : Int32))) (Eb : Exa Z h0 a1 "java/lang/StringBuilder") (Bv : Fld Z h0 a1 "java/lang/AbstractStringBuilder" "value" "[B" (.ref v1)) (Bc : Fld Z h0 a1 "java/lang/AbstractStringBuilder" "coder" "B" (.int 1)) (Bn : Fld Z h0 a1 "java/lang/AbstractStringBuilder" "count" "I" (.int (oN nn))) (Bm : Fld Z h0 a1 "java/lang/AbstractStringBuilder" "maybeLatin1" "Z" (.int ml)) (Vb : Arv Z h0 v1 kv .byte (oN (2 * (nn + 16))) (u16 cs) (.int 0)) :
  MF l mN20 jdk_68_method_6_code 1 (some .int) ws (Rm 0 0 0 0) Z #[(.ref a1)] h0 (Q_rmALenU Z a1 cs cs0 v1 kv nn ml h0 n0) := by
 refine MetFree.of_bodySF (plainFor_of_name pn_7) hisR ?_
 intro p e s m args below meth c s₁ Bd hml0 hP hK
 obtain ⟨rfl, hZ, hh⟩ := hP
 have hx := Bd.exec
 have hby := Bd.bytes
 have hml : c.maxLocals = 1 := hml0
 have hown : s.vm.findClass "java/lang/AbstractStringBuilder" = some m.cls := findClass_of_methodNamed Bd.named
 have X0 : Stand p l e (Rm 0 0 0 0) s m #[(.ref a1)] below meth c s₁ [] 0 0 := Stand.of_body Bd
 have e0 : s₁.heap = h0 := by rw [← hh, Bd.state]; rfl
 have N0 := Fr.nil n0
 have hn0 : n0 ≤ h0.size := O0.1 ▸ O0.2.1
 have pre0 : ∀ t, SS p e below s₁ m 0 #[vR a1] [] t → SE p e below s₁ m #[(.ref a1)] 1 t := fun t k => castTop (ef_rmALenU m a1) k
 obtain ⟨T101, X101, e101, st101⟩ := getF X0 hx hZ hown (host := "") (Or.inl (tw hw 75 rfl)) Via.refl e0 Bn (g := (mkF m 1 #[vR a1] [(.ref a1)])) rfl rfl (hb hby d18_1)
 obtain ⟨fs, hr, hrun, hended, hW, hsame⟩ := X101.leave (v := some (.int (oN nn))) (nvr Bd.returns)
 refine ⟨_, _, pre0 _ ?_, hrun, hended, _, _, rfl, ?_, ⟨_, rfl⟩, hW, hsame.mono (by decide) (by decide)⟩
 ·skip
  show SS p e below s₁ m 0 #[vR a1] [] _
  refine XS.aloadN X0.here hx rfl (hb hby d18_0) rfl rfl ?_
  show SS p e below s₁ m 1 #[vR a1] [(.ref a1)] _
  refine st101 _ ?_
  show SS p e below T101 m 4 #[vR a1] [(.int (oN nn))] _
  exact retI X101 hx Bd.returns (hb hby d18_4) hr
 ·show Q_rmALenU Z a1 cs cs0 v1 kv nn ml h0 n0 _ T101.heap _
  rw [e101]
  exact ⟨rfl, N0, rfl⟩
theorem ef_rmBLenU (m : MethodId) (y0 : Addr) : entryFrame m #[(.ref y0)] 1 = (mkF m 0 #[vR y0] []) := by first | (simp [entryFrame, mkF, argsToLocals, Value.category]; done) | rfl
def Q_rmBLenU (Z : State) (a1 : Addr) (cs : List Int32) (cs0 : Int32) (v1 : Addr) (kv : ClassId) (nn : Nat) (ml : Int32) (h0 : Heap) (n0 : Nat) (v : Option Value) (h : Heap) (L : List Loc) : Prop := v = some (.int (oN nn)) ∧ Fr n0 L ∧ h = h0
theorem rmBLenU (l : Launch) (Z : State) (a0 : Array Value) (hw : HW a0 Z) (ws : List Jvm.Cond) (a1 : Addr) (cs : List Int32) (cs0 : Int32) (v1 : Addr) (kv : ClassId) (nn : Nat) (ml : Int32) (h0 : Heap) (n0 : Nat) (O0 : Old Z n0 h0) (S_CS : SCS Z cs0) (c_CS : ¬ (cs0 = (0 : Int32))) (Eb : Exa Z h0 a1 "java/lang/StringBuilder") (Bv : Fld Z h0 a1 "java/lang/AbstractStringBuilder" "value" "[B" (.ref v1)) (Bc : Fld Z h0 a1 "java/lang/AbstractStringBuilder" "coder" "B" (.int 1)) (Bn : Fld Z h0 a1 "java/lang/AbstractStringBuilder" "count" "I" (.int (oN nn))) (Bm : Fld Z h0 a1 "java/lang/AbstractStringBuilder" "maybeLatin1" "Z" (.int ml)) (Vb : Arv Z h0 v1 kv .byte (oN (2 * (nn + 16))) (u16 cs) (.int 0)) :
  MF l mN21 jdk_67_method_93_code 1 (some .int) ws (Rm 1 0 0 20) Z #[(.ref a1)] h0 (Q_rmBLenU Z a1 cs cs0 v1 kv nn ml h0 n0) := by
 refine MetFree.of_bodySF (plainFor_of_name pn_6) hisR ?_
 intro p e s m args below meth c s₁ Bd hml0 hP hK
 obtain ⟨rfl, hZ, hh⟩ := hP
 have hx := Bd.exec
 have hby := Bd.bytes
 have hml : c.maxLocals = 1 := hml0
 have hown : s.vm.findClass "java/lang/StringBuilder" = some m.cls := findClass_of_methodNamed Bd.named
 have X0 : Stand p l e (Rm 1 0 0 20) s m #[(.ref a1)] below meth c s₁ [] 0 0 := Stand.of_body Bd
 have e0 : s₁.heap = h0 := by rw [← hh, Bd.state]; rfl
 have N0 := Fr.nil n0
 have hn0 : n0 ≤ h0.size := O0.1 ▸ O0.2.1
 have pre0 : ∀ t, SS p e below s₁ m 0 #[vR a1] [] t → SE p e below s₁ m #[(.ref a1)] 1 t := fun t k => castTop (ef_rmBLenU m a1) k
 obtain ⟨_, _, ⟨T101, L101, k101, n101⟩, -, X101, ⟨Lc101, hQ101, l101, y101, z101⟩, st101⟩ := superBack X0 hx hZ hown (tw hw 107 rfl) (own_same (tw hw 108 rfl) (own_nface (a0 := a0) (y := mN20) (tw hw 80 rfl) rfl) (by decide)) (tw hw 108 rfl) (tw hw 73 rfl) (by decide) (backOf (W := 0) (rmALenU l Z a0 hw [] a1 cs cs0 v1 kv nn ml h0 n0 O0 S_CS c_CS Eb Bv Bc Bn Bm Vb) hZ (tw hw 110 rfl) (tw hw 41 rfl) (by decide) (by decide)) e0 (Ins.self Eb) (g := (mkF m 1 #[vR a1] [(.ref a1)])) rfl (by rw [hml]; rfl) (tw hw 110 rfl) (a := a1) (argsL := []) (rest := []) (lenOf pd_6 rfl) rfl (wL _) (hb hby d17_1) (fun _ _ => ⟨rfl, e0, (by decide : 0 + 0 ≤ _), (by decide : 0 + 0 ≤ _)⟩)
 dsimp only [Pt.U, Pt.locs, Pt.cells, Pt.slots] at X101 l101 y101 z101 st101 hQ101
 subst l101 y101 z101
 obtain ⟨rfl, N101q, H101⟩ := hQ101
 have N101 := Fr.app N0 N101q
 obtain ⟨fs, hr, hrun, hended, hW, hsame⟩ := X101.leave (v := some (.int (oN nn))) (nvr Bd.returns)
 refine ⟨_, _, pre0 _ ?_, hrun, hended, _, _, rfl, ?_, ⟨_, rfl⟩, hW, hsame.mono (by decide) (by decide)⟩
 ·skip
  show SS p e below s₁ m 0 #[vR a1] [] _
  refine XS.aloadN X0.here hx rfl (hb hby d17_0) rfl rfl ?_
  show SS p e below s₁ m 1 #[vR a1] [(.ref a1)] _
  refine st101.trans ?_
  show SS p e below T101 m 4 #[vR a1] [(.int (oN nn))] _
  exact retI X101 hx Bd.returns (hb hby d17_4) hr
 ·show Q_rmBLenU Z a1 cs cs0 v1 kv nn ml h0 n0 _ T101.heap _
  rw [H101]
  exact ⟨rfl, N101, rfl⟩
theorem ef_rmGValU (m : MethodId) (y0 : Addr) : entryFrame m #[(.ref y0)] 1 = (mkF m 0 #[vR y0] []) := by first | (simp [entryFrame, mkF, argsToLocals, Value.category]; done) | rfl
def Q_rmGValU (Z : State) (a1 : Addr) (cs : List Int32) (cs0 : Int32) (v1 : Addr) (kv : ClassId) (nn : Nat) (ml : Int32) (h0 : Heap) (n0 : Nat) (v : Option Value) (h : Heap) (L : List Loc) : Prop := v = some (.ref v1) ∧ Fr n0 L ∧ h = h0
theorem rmGValU (l : Launch) (Z : State) (a0 : Array Value) (hw : HW a0 Z) (ws : List Jvm.Cond) (a1 : Addr) (cs : List Int32) (cs0 : Int32) (v1 : Addr) (kv : ClassId) (nn : Nat) (ml : Int32) (h0 : Heap) (n0 : Nat) (O0 : Old Z n0 h0) (S_CS : SCS Z cs0) (c_CS : ¬ (cs0 = (0 : Int32))) (Eb : Exa Z h0 a1 "java/lang/StringBuilder") (Bv : Fld Z h0 a1 "java/lang/AbstractStringBuilder" "value" "[B" (.ref v1)) (Bc : Fld Z h0 a1 "java/lang/AbstractStringBuilder" "coder" "B" (.int 1)) (Bn : Fld Z h0 a1 "java/lang/AbstractStringBuilder" "count" "I" (.int (oN nn))) (Bm : Fld Z h0 a1 "java/lang/AbstractStringBuilder" "maybeLatin1" "Z" (.int ml)) (Vb : Arv Z h0 v1 kv .byte (oN (2 * (nn + 16))) (u16 cs) (.int 0)) :
  MF l mN22 jdk_68_method_64_code 1 (some (.array .byte)) ws (Rm 0 0 0 0) Z #[(.ref a1)] h0 (Q_rmGValU Z a1 cs cs0 v1 kv nn ml h0 n0) := by
 refine MetFree.of_bodySF (plainFor_of_name pn_7) hisR ?_
 intro p e s m args below meth c s₁ Bd hml0 hP hK
 obtain ⟨rfl, hZ, hh⟩ := hP
 have hx := Bd.exec
 have hby := Bd.bytes
 have hml : c.maxLocals = 1 := hml0
 have hown : s.vm.findClass "java/lang/AbstractStringBuilder" = some m.cls := findClass_of_methodNamed Bd.named
 have X0 : Stand p l e (Rm 0 0 0 0) s m #[(.ref a1)] below meth c s₁ [] 0 0 := Stand.of_body Bd
 have e0 : s₁.heap = h0 := by rw [← hh, Bd.state]; rfl
 have N0 := Fr.nil n0
 have hn0 : n0 ≤ h0.size := O0.1 ▸ O0.2.1
 have pre0 : ∀ t, SS p e below s₁ m 0 #[vR a1] [] t → SE p e below s₁ m #[(.ref a1)] 1 t := fun t k => castTop (ef_rmGValU m a1) k
 obtain ⟨T101, X101, e101, st101⟩ := getF X0 hx hZ hown (host := "") (Or.inl (tw hw 59 rfl)) Via.refl e0 Bv (g := (mkF m 1 #[vR a1] [(.ref a1)])) rfl rfl (hb hby d22_1)
 obtain ⟨fs, hr, hrun, hended, hW, hsame⟩ := X101.leave (v := some (.ref v1)) (nvr Bd.returns)
 refine ⟨_, _, pre0 _ ?_, hrun, hended, _, _, rfl, ?_, ⟨_, rfl⟩, hW, hsame.mono (by decide) (by decide)⟩
 ·skip
  show SS p e below s₁ m 0 #[vR a1] [] _
  refine XS.aloadN X0.here hx rfl (hb hby d22_0) rfl rfl ?_
  show SS p e below s₁ m 1 #[vR a1] [(.ref a1)] _
  refine st101 _ ?_
  show SS p e below T101 m 4 #[vR a1] [(.ref v1)] _
  exact X101.areturnOut hx rfl Bd.returns rfl (hb hby d22_4) hr
 ·show Q_rmGValU Z a1 cs cs0 v1 kv nn ml h0 n0 _ T101.heap _
  rw [e101]
  exact ⟨rfl, N0, rfl⟩
theorem d16_0 : DK cD23 0 (.aload_n 0) 1 := by decide +kernel
theorem d16_1 : DK cD23 1 (.invokevirtual 335) 3 := by decide +kernel
theorem d16_4 : DK cD23 4 (.iload_n 3) 1 := by decide +kernel
theorem d16_5 : DK cD23 5 (.if_icmp .ne 23) 3 := by decide +kernel
theorem d16_8 : DK cD23 8 (.aload_n 0) 1 := by decide +kernel
theorem d16_9 : DK cD23 9 (.getfield 9) 3 := by decide +kernel
theorem d16_12 : DK cD23 12 (.iconst 0) 1 := by decide +kernel
theorem d16_13 : DK cD23 13 (.aload_n 1) 1 := by decide +kernel
theorem d16_14 : DK cD23 14 (.iload_n 2) 1 := by decide +kernel
theorem d16_15 : DK cD23 15 (.iload_n 3) 1 := by decide +kernel
theorem d16_16 : DK cD23 16 (.ishl) 1 := by decide +kernel
theorem d16_17 : DK cD23 17 (.aload_n 0) 1 := by decide +kernel
theorem d16_18 : DK cD23 18 (.getfield 9) 3 := by decide +kernel
theorem d16_21 : DK cD23 21 (.arraylength) 1 := by decide +kernel
theorem d16_22 : DK cD23 22 (.invokestatic 212) 3 := by decide +kernel
theorem d16_25 : DK cD23 25 (.goto 18) 3 := by decide +kernel
theorem d16_43 : DK cD23 43 (.return_) 1 := by decide +kernel
theorem ef_rmGbL (m : MethodId) (y0 : Addr) (y1 : Addr) : entryFrame m #[(.ref y0), (.ref y1), (.int 0), (.int 0)] 4 = (mkF m 0 #[vR y0, vR y1, vI 0, vI 0] []) := by first | (simp [entryFrame, mkF, argsToLocals, Value.category]; done) | rfl
def Q_rmGbL (Z : State) (a1 : Addr) (a2 : Addr) (cs : List Int32) (cs0 : Int32) (t1 : Addr) (k1 : ClassId) (kd : ClassId) (h0 : Heap) (n0 : Nat) (v : Option Value) (h : Heap) (L : List Loc) : Prop := v = none ∧ Fr n0 L ∧ Keep h0 h [a2] ∧ Arv Z h a2 kd .byte (oN ((lat cs).length + 16)) ((lat cs).map Value.int) (.int 0)
theorem rmGbL (l : Launch) (Z : State) (a0 : Array Value) (hw : HW a0 Z) (ws : List Jvm.Cond) (a1 : Addr) (a2 : Addr) (cs : List Int32) (cs0 : Int32) (t1 : Addr) (k1 : ClassId) (kd : ClassId) (h0 : Heap) (n0 : Nat) (O0 : Old Z n0 h0) (S_CS : SCS Z cs0) (c_CS : ¬ (cs0 = (0 : Int32))) (E1 : Exa Z h0 a1 "java/lang/String") (Fv1 : Fld Z h0 a1 "java/lang/String" "value" "[B" (.ref t1)) (Fc1 : Fld Z h0 a1 "java/lang/String" "coder" "B" (.int 0)) (V1 : Arv Z h0 t1 k1 .byte (oN (lat cs).length) ((lat cs).map Value.int) (.int 0)) (hn : (lat cs).length ≤ 4) (gd : n0 ≤ a2) (Vd : Arv Z h0 a2 kd .byte (oN ((lat cs).length + 16)) (List.replicate ((lat cs).length + 16) (.int 0)) (.int 0)) (ne : @Ne Nat t1 a2) :
  MF l mN23 jdk_42_method_147_code 4 none ws (Rm 1 0 0 60) Z #[(.ref a1), (.ref a2), (.int 0), (.int 0)] h0 (Q_rmGbL Z a1 a2 cs cs0 t1 k1 kd h0 n0) := by
 refine MetFree.of_bodySF (plainFor_of_name pn_2) hisR ?_
 intro p e s m args below meth c s₁ Bd hml0 hP hK
 obtain ⟨rfl, hZ, hh⟩ := hP
 have hx := Bd.exec
 have hby := Bd.bytes
 have hml : c.maxLocals = 4 := hml0
 have hown : s.vm.findClass "java/lang/String" = some m.cls := findClass_of_methodNamed Bd.named
 have X0 : Stand p l e (Rm 1 0 0 60) s m #[(.ref a1), (.ref a2), (.int 0), (.int 0)] below meth c s₁ [] 0 0 := Stand.of_body Bd
 have e0 : s₁.heap = h0 := by rw [← hh, Bd.state]; rfl
 have N0 := Fr.nil n0
 have hn0 : n0 ≤ h0.size := O0.1 ▸ O0.2.1
 have pre0 : ∀ t, SS p e below s₁ m 0 #[vR a1, vR a2, vI 0, vI 0] [] t → SE p e below s₁ m #[(.ref a1), (.ref a2), (.int 0), (.int 0)] 4 t := fun t k => castTop (ef_rmGbL m a1 a2) k
 have lt_a2 : @LT.lt Nat _ a2 h0.size := Vd.lt
 obtain ⟨cq101, kq101, q101a, q101b, q101c⟩ := isOf hZ e0 E1
 obtain ⟨_, _, ⟨T101, L101, k101, n101⟩, -, X101, ⟨Lc101, hQ101, l101, y101, z101⟩, st101⟩ := X0.virtualBack hx (y := mN10) (z := mN10) hown (mvT hZ (tw hw 49 rfl)) (mvT hZ (tw hw 50 rfl)) (notFace_of_selects (args := #[]) (mvT hZ (tw hw 52 rfl))) (mvT hZ (tw hw 52 rfl)) (mvT hZ (tw hw 51 rfl)) (by decide) (backOf (W := 0) (rmCoderL l Z a0 hw [] a1 (lat cs) t1 k1 cs0 h0 n0 O0 S_CS c_CS E1 Fv1 Fc1 V1 hn) hZ (tw hw 53 rfl) (tw hw 8 rfl) (by decide) (by decide)) q101a q101c (g := (mkF m 1 #[vR a1, vR a2, vI 0, vI 0] [(.ref a1)])) rfl (by rw [hml]; rfl) (Steps.refl _) (argsL := []) (rest := []) (lenOf pd_7 rfl) rfl (wL _) (hb hby d16_1) (fun _ _ => ⟨rfl, e0, (by decide : 0 + 0 ≤ _), (by decide : 0 + 0 ≤ _)⟩)
 dsimp only [Pt.U, Pt.locs, Pt.cells, Pt.slots] at X101 l101 y101 z101 st101 hQ101
 subst l101 y101 z101
 obtain ⟨rfl, N101q, H101⟩ := hQ101
 have N101 := Fr.app N0 N101q
 obtain ⟨T102, X102, e102, st102⟩ := getF X101 hx hZ hown (host := "") (Or.inl (tw hw 25 rfl)) Via.refl H101 Fv1 (g := (mkF m 9 #[vR a1, vR a2, vI 0, vI 0] [(.ref a1)])) rfl rfl (hb hby d16_9)
 obtain ⟨T103, X103, e103, st103⟩ := getF X102 hx hZ hown (host := "") (Or.inl (tw hw 25 rfl)) Via.refl e102 Fv1 (g := (mkF m 18 #[vR a1, vR a2, vI 0, vI 0] [(.ref a1), (.int ((0 : Int32) <<< ((0 : Int32) &&& 31))), (.ref a2), (.int 0), (.ref t1)])) rfl rfl (hb hby d16_18)
 obtain ⟨cl104, Ar104, q104, S104, Nn104, H104, G104⟩ := id V1
 obtain ⟨T105, h105, L105, X105, e105, N105, K105, V105w, st105⟩ := cpA X103 hx hZ hown (tw hw 98 rfl) (tw hw 101 rfl) (tw hw 99 rfl) (tw hw 100 rfl) e103 (us := ((lat cs).map Value.int)) V1 Vd (Or.inl ⟨rfl, rfl⟩) (by decide) (by decide) (own_nn (by omega)) (by rw [own_z0]; exact Nat.le_of_eq (Nat.zero_add _)) (by rw [own_zs0, own_nat (by omega), own_nat (by omega)]; omega) (own_cpy _ _ own_z0 (by rw [own_nat (by omega)]; exact List.length_map ..)) (by rw [own_zs0, own_nat (by omega), List.length_replicate]; omega) N101 (by omega : @LE.le Nat _ n0 a2) (g := (mkF m 22 #[vR a1, vR a2, vI 0, vI 0] [(.int (oN (lat cs).length)), (.int ((0 : Int32) <<< ((0 : Int32) &&& 31))), (.ref a2), (.int 0), (.ref t1)])) rfl (by rw [hml]; rfl) rfl (hb hby d16_22) (by decide) (W := 0) (wL _) (by decide)
 have V105 : Arv Z h105 a2 kd .byte (oN ((lat cs).length + 16)) ((lat cs).map Value.int) (.int 0) := V105w.pad (own_padr _ _ own_zs0)
 have sz1_K105 := K105.1
 have KC106 : Keep h0 h105 [a2] := (Keep.refl h0 [a2]).trans K105 (allS (Or.inl (List.mem_of_getElem? (i := 0) rfl)) (all0))
 obtain ⟨fs, hr, hrun, hended, hW, hsame⟩ := X105.leave (v := none) (fun _ => rfl)
 refine ⟨_, _, pre0 _ ?_, hrun, hended, _, _, rfl, ?_, ⟨_, rfl⟩, hW, hsame.mono (by decide) (by decide)⟩
 ·skip
  show SS p e below s₁ m 0 #[vR a1, vR a2, vI 0, vI 0] [] _
  refine XS.aloadN X0.here hx rfl (hb hby d16_0) rfl rfl ?_
  show SS p e below s₁ m 1 #[vR a1, vR a2, vI 0, vI 0] [(.ref a1)] _
  refine st101.trans ?_
  refine XS.iloadN X101.here hx rfl (hb hby d16_4) rfl ?_
  refine XS.icmpNo X101.here hx rfl (hb hby d16_5) rfl (teq (by decide : (0 : Int32) = (0 : Int32))).2 ?_
  refine XS.aloadN X101.here hx rfl (hb hby d16_8) rfl rfl ?_
  show SS p e below T101 m 9 #[vR a1, vR a2, vI 0, vI 0] [(.ref a1)] _
  refine st102 _ ?_
  refine XS.iconst X102.here hx rfl (hb hby d16_12) ?_
  refine XS.aloadN X102.here hx rfl (hb hby d16_13) rfl rfl ?_
  refine XS.iloadN X102.here hx rfl (hb hby d16_14) rfl ?_
  refine XS.iloadN X102.here hx rfl (hb hby d16_15) rfl ?_
  show SS p e below T102 m 16 #[vR a1, vR a2, vI 0, vI 0] [(.int 0), (.int 0), (.ref a2), (.int 0), (.ref t1)] _
  refine XS.ishl X102.here hx rfl (hb hby d16_16) rfl ?_
  refine XS.aloadN X102.here hx rfl (hb hby d16_17) rfl rfl ?_
  show SS p e below T102 m 18 #[vR a1, vR a2, vI 0, vI 0] [(.ref a1), (.int ((0 : Int32) <<< ((0 : Int32) &&& 31))), (.ref a2), (.int 0), (.ref t1)] _
  refine st103 _ ?_
  show SS p e below T103 m 21 #[vR a1, vR a2, vI 0, vI 0] [(.ref t1), (.int ((0 : Int32) <<< ((0 : Int32) &&& 31))), (.ref a2), (.int 0), (.ref t1)] _
  refine X103.arraylength hx (by rw [e103]; exact Ar104.1) (State.isArrayOf_alike hZ.alike Ar104.2.1) (g := (mkF m 21 #[vR a1, vR a2, vI 0, vI 0] [(.ref t1), (.int ((0 : Int32) <<< ((0 : Int32) &&& 31))), (.ref a2), (.int 0), (.ref t1)])) rfl rfl (hb hby d16_21) _ ?_
  rw [len_of S104 Nn104]
  show SS p e below T103 m 22 #[vR a1, vR a2, vI 0, vI 0] [(.int (oN (lat cs).length)), (.int ((0 : Int32) <<< ((0 : Int32) &&& 31))), (.ref a2), (.int 0), (.ref t1)] _
  refine st105 _ ?_
  refine XS.goto X105.here hx rfl (pc0 := 25) (pc' := 43) rfl (hb hby d16_25) (by decide) (by decide) ?_
  show SS p e below T105 m 43 #[vR a1, vR a2, vI 0, vI 0] [] _
  exact X105.returnOut hx Bd.returns (hb hby d16_43) hr
 ·show Q_rmGbL Z a1 a2 cs cs0 t1 k1 kd h0 n0 _ T105.heap _
  rw [e105]
  exact ⟨rfl, N105, KC106, V105⟩
theorem d15_0 : DK cD24 0 (.getstatic 18) 3 := by decide +kernel
theorem d15_3 : DK cD24 3 (.ifCond .eq 18) 3 := by decide +kernel
theorem d15_6 : DK cD24 6 (.aload_n 0) 1 := by decide +kernel
theorem d15_7 : DK cD24 7 (.getfield 22) 3 := by decide +kernel
theorem d15_10 : DK cD24 10 (.aload_n 1) 1 := by decide +kernel
theorem d15_11 : DK cD24 11 (.invokevirtual 40) 3 := by decide +kernel
theorem d15_14 : DK cD24 14 (.if_icmp .eq 7) 3 := by decide +kernel
theorem d15_21 : DK cD24 21 (.return_) 1 := by decide +kernel
theorem ef_rmInfL (m : MethodId) (y0 : Addr) (y1 : Addr) : entryFrame m #[(.ref y0), (.ref y1)] 2 = (mkF m 0 #[vR y0, vR y1] []) := by first | (simp [entryFrame, mkF, argsToLocals, Value.category]; done) | rfl
def Q_rmInfL (Z : State) (a1 : Addr) (a2 : Addr) (cs : List Int32) (cs0 : Int32) (t2 : Addr) (k2 : ClassId) (v1 : Addr) (kv : ClassId) (h0 : Heap) (n0 : Nat) (v : Option Value) (h : Heap) (L : List Loc) : Prop := v = none ∧ Fr n0 L ∧ h = h0
theorem rmInfL (l : Launch) (Z : State) (a0 : Array Value) (hw : HW a0 Z) (ws : List Jvm.Cond) (a1 : Addr) (a2 : Addr) (cs : List Int32) (cs0 : Int32) (t2 : Addr) (k2 : ClassId) (v1 : Addr) (kv : ClassId) (h0 : Heap) (n0 : Nat) (O0 : Old Z n0 h0) (S_CS : SCS Z cs0) (c_CS : ¬ (cs0 = (0 : Int32))) (E2 : Exa Z h0 a2 "java/lang/String") (Fv2 : Fld Z h0 a2 "java/lang/String" "value" "[B" (.ref t2)) (Fc2 : Fld Z h0 a2 "java/lang/String" "coder" "B" (.int 0)) (V2 : Arv Z h0 t2 k2 .byte (oN (lat cs).length) ((lat cs).map Value.int) (.int 0)) (hn : (lat cs).length ≤ 4) (Eb : Exa Z h0 a1 "java/lang/StringBuilder") (Bv : Fld Z h0 a1 "java/lang/AbstractStringBuilder" "value" "[B" (.ref v1)) (Bc : Fld Z h0 a1 "java/lang/AbstractStringBuilder" "coder" "B" (.int 0)) (Bn : Fld Z h0 a1 "java/lang/AbstractStringBuilder" "count" "I" (.int 0)) (Bm : Fld Z h0 a1 "java/lang/AbstractStringBuilder" "maybeLatin1" "Z" (.int 0)) (Vb : Arv Z h0 v1 kv .byte (oN ((lat cs).length + 16)) (List.replicate ((lat cs).length + 16) (.int 0)) (.int 0)) (g1 : n0 ≤ a1) (gv : n0 ≤ v1) (nv1 : @Ne Nat v1 a1) (nv2 : @Ne Nat v1 a2) (nv3 : @Ne Nat v1 t2) (na2 : @Ne Nat a1 a2) (na3 : @Ne Nat a1 t2) :
  MF l mN24 jdk_68_method_71_code 2 none ws (Rm 1 0 0 20) Z #[(.ref a1), (.ref a2)] h0 (Q_rmInfL Z a1 a2 cs cs0 t2 k2 v1 kv h0 n0) := by
 refine MetFree.of_bodySF (plainFor_of_name pn_7) hisR ?_
 intro p e s m args below meth c s₁ Bd hml0 hP hK
 obtain ⟨rfl, hZ, hh⟩ := hP
 have hx := Bd.exec
 have hby := Bd.bytes
 have hml : c.maxLocals = 2 := hml0
 have hown : s.vm.findClass "java/lang/AbstractStringBuilder" = some m.cls := findClass_of_methodNamed Bd.named
 have X0 : Stand p l e (Rm 1 0 0 20) s m #[(.ref a1), (.ref a2)] below meth c s₁ [] 0 0 := Stand.of_body Bd
 have e0 : s₁.heap = h0 := by rw [← hh, Bd.state]; rfl
 have N0 := Fr.nil n0
 have hn0 : n0 ≤ h0.size := O0.1 ▸ O0.2.1
 have pre0 : ∀ t, SS p e below s₁ m 0 #[vR a1, vR a2] [] t → SE p e below s₁ m #[(.ref a1), (.ref a2)] 2 t := fun t k => castTop (ef_rmInfL m a1 a2) k
 have lt_a1 : @LT.lt Nat _ a1 h0.size := Eb.lt
 have lt_v1 : @LT.lt Nat _ v1 h0.size := Vb.lt
 have lt_a2 : @LT.lt Nat _ a2 h0.size := E2.lt
 have lt_t2 : @LT.lt Nat _ t2 h0.size := V2.lt
 obtain ⟨T101, X101, e101, st101⟩ := getS2 X0 hx hZ hown (host := "") (Or.inl (tw hw 92 rfl)) Via.refl e0 (Sta.ext O0.2 S_CS) (g := (mkF m 0 #[vR a1, vR a2] [])) rfl (hb hby d15_0)
 obtain ⟨T102, X102, e102, st102⟩ := getF X101 hx hZ hown (host := "") (Or.inl (tw hw 57 rfl)) Via.refl e101 Bc (g := (mkF m 7 #[vR a1, vR a2] [(.ref a1)])) rfl rfl (hb hby d15_7)
 obtain ⟨cq103, kq103, q103a, q103b, q103c⟩ := isOf hZ e102 E2
 obtain ⟨_, _, ⟨T103, L103, k103, n103⟩, -, X103, ⟨Lc103, hQ103, l103, y103, z103⟩, st103⟩ := X102.virtualBack hx (y := mN10) (z := mN10) hown (mvT hZ (tw hw 56 rfl)) (mvT hZ (tw hw 50 rfl)) (notFace_of_selects (args := #[]) (mvT hZ (tw hw 52 rfl))) (mvT hZ (tw hw 52 rfl)) (mvT hZ (tw hw 51 rfl)) (by decide) (backOf (W := 1) (rmCoderL l Z a0 hw [] a2 (lat cs) t2 k2 cs0 h0 n0 O0 S_CS c_CS E2 Fv2 Fc2 V2 hn) hZ (tw hw 53 rfl) (tw hw 8 rfl) (by decide) (by decide)) q103a q103c (g := (mkF m 11 #[vR a1, vR a2] [(.ref a2), (.int 0)])) rfl (by rw [hml]; rfl) (Steps.refl _) (argsL := []) (rest := [(.int 0)]) (lenOf pd_7 rfl) rfl (wL _) (hb hby d15_11) (fun _ _ => ⟨rfl, e102, (by decide : 0 + 0 ≤ _), (by decide : 0 + 0 ≤ _)⟩)
 dsimp only [Pt.U, Pt.locs, Pt.cells, Pt.slots] at X103 l103 y103 z103 st103 hQ103
 subst l103 y103 z103
 obtain ⟨rfl, N103q, H103⟩ := hQ103
 have N103 := Fr.app N0 N103q
 obtain ⟨fs, hr, hrun, hended, hW, hsame⟩ := X103.leave (v := none) (fun _ => rfl)
 refine ⟨_, _, pre0 _ ?_, hrun, hended, _, _, rfl, ?_, ⟨_, rfl⟩, hW, hsame.mono (by decide) (by decide)⟩
 ·skip
  show SS p e below s₁ m 0 #[vR a1, vR a2] [] _
  refine st101 _ ?_
  refine XS.ifNo X101.here hx rfl (hb hby d15_3) rfl ((if0 _ _).trans (feq (c_CS : ¬ (cs0 = (0 : Int32)))).1) ?_
  refine XS.aloadN X101.here hx rfl (hb hby d15_6) rfl rfl ?_
  show SS p e below T101 m 7 #[vR a1, vR a2] [(.ref a1)] _
  refine st102 _ ?_
  refine XS.aloadN X102.here hx rfl (hb hby d15_10) rfl rfl ?_
  show SS p e below T102 m 11 #[vR a1, vR a2] [(.ref a2), (.int 0)] _
  refine st103.trans ?_
  refine XS.icmpYes X103.here hx rfl (pc0 := 14) (pc' := 21) rfl (hb hby d15_14) rfl (teq (by decide : (0 : Int32) = (0 : Int32))).1 (by decide) (by decide) ?_
  show SS p e below T103 m 21 #[vR a1, vR a2] [] _
  exact X103.returnOut hx Bd.returns (hb hby d15_21) hr
 ·show Q_rmInfL Z a1 a2 cs cs0 t2 k2 v1 kv h0 n0 _ T103.heap _
  rw [H103]
  exact ⟨rfl, N103, rfl⟩
theorem d14_0 : DK cD25 0 (.aload_n 0) 1 := by decide +kernel
theorem d14_1 : DK cD25 1 (.aload_n 2) 1 := by decide +kernel
theorem d14_2 : DK cD25 2 (.invokevirtual 397) 3 := by decide +kernel
theorem d14_5 : DK cD25 5 (.aload_n 2) 1 := by decide +kernel
theorem d14_6 : DK cD25 6 (.aload_n 0) 1 := by decide +kernel
theorem d14_7 : DK cD25 7 (.getfield 15) 3 := by decide +kernel
theorem d14_10 : DK cD25 10 (.iload_n 1) 1 := by decide +kernel
theorem d14_11 : DK cD25 11 (.aload_n 0) 1 := by decide +kernel
theorem d14_12 : DK cD25 12 (.getfield 22) 3 := by decide +kernel
theorem d14_15 : DK cD25 15 (.invokevirtual 399) 3 := by decide +kernel
theorem d14_18 : DK cD25 18 (.return_) 1 := by decide +kernel
theorem pd_5 : parseMethodDescriptor "(Ljava/lang/String;)V" = some ⟨[(.object "java/lang/String")], none⟩ := by decide +kernel
theorem pd_12 : parseMethodDescriptor "([BIB)V" = some ⟨[(.array .byte), .int, .byte], none⟩ := by decide +kernel
theorem ef_rmPsaL (m : MethodId) (y0 : Addr) (y1 : Addr) : entryFrame m #[(.ref y0), (.int 0), (.ref y1)] 3 = (mkF m 0 #[vR y0, vI 0, vR y1] []) := by first | (simp [entryFrame, mkF, argsToLocals, Value.category]; done) | rfl
def Q_rmPsaL (Z : State) (a1 : Addr) (a2 : Addr) (cs : List Int32) (cs0 : Int32) (t2 : Addr) (k2 : ClassId) (v1 : Addr) (kv : ClassId) (h0 : Heap) (n0 : Nat) (v : Option Value) (h : Heap) (L : List Loc) : Prop := v = none ∧ Fr n0 L ∧ Keep h0 h [v1] ∧ Arv Z h v1 kv .byte (oN ((lat cs).length + 16)) ((lat cs).map Value.int) (.int 0)
theorem rmPsaL (l : Launch) (Z : State) (a0 : Array Value) (hw : HW a0 Z) (ws : List Jvm.Cond) (a1 : Addr) (a2 : Addr) (cs : List Int32) (cs0 : Int32) (t2 : Addr) (k2 : ClassId) (v1 : Addr) (kv : ClassId) (h0 : Heap) (n0 : Nat) (O0 : Old Z n0 h0) (S_CS : SCS Z cs0) (c_CS : ¬ (cs0 = (0 : Int32))) (E2 : Exa Z h0 a2 "java/lang/String") (Fv2 : Fld Z h0 a2 "java/lang/String" "value" "[B" (.ref t2)) (Fc2 : Fld Z h0 a2 "java/lang/String" "coder" "B" (.int 0)) (V2 : Arv Z h0 t2 k2 .byte (oN (lat cs).length) ((lat cs).map Value.int) (.int 0)) (hn : (lat cs).length ≤ 4) (Eb : Exa Z h0 a1 "java/lang/StringBuilder") (Bv : Fld Z h0 a1 "java/lang/AbstractStringBuilder" "value" "[B" (.ref v1)) (Bc : Fld Z h0 a1 "java/lang/AbstractStringBuilder" "coder" "B" (.int 0)) (Bn : Fld Z h0 a1 "java/lang/AbstractStringBuilder" "count" "I" (.int 0)) (Bm : Fld Z h0 a1 "java/lang/AbstractStringBuilder" "maybeLatin1" "Z" (.int 0)) (Vb : Arv Z h0 v1 kv .byte (oN ((lat cs).length + 16)) (List.replicate ((lat cs).length + 16) (.int 0)) (.int 0)) (g1 : n0 ≤ a1) (gv : n0 ≤ v1) (nv1 : @Ne Nat v1 a1) (nv2 : @Ne Nat v1 a2) (nv3 : @Ne Nat v1 t2) (na2 : @Ne Nat a1 a2) (na3 : @Ne Nat a1 t2) :
  MF l mN25 jdk_68_method_73_code 3 none ws (Rm 2 0 0 90) Z #[(.ref a1), (.int 0), (.ref a2)] h0 (Q_rmPsaL Z a1 a2 cs cs0 t2 k2 v1 kv h0 n0) := by
 refine MetFree.of_bodySF (plainFor_of_name pn_7) hisR ?_
 intro p e s m args below meth c s₁ Bd hml0 hP hK
 obtain ⟨rfl, hZ, hh⟩ := hP
 have hx := Bd.exec
 have hby := Bd.bytes
 have hml : c.maxLocals = 3 := hml0
 have hown : s.vm.findClass "java/lang/AbstractStringBuilder" = some m.cls := findClass_of_methodNamed Bd.named
 have X0 : Stand p l e (Rm 2 0 0 90) s m #[(.ref a1), (.int 0), (.ref a2)] below meth c s₁ [] 0 0 := Stand.of_body Bd
 have e0 : s₁.heap = h0 := by rw [← hh, Bd.state]; rfl
 have N0 := Fr.nil n0
 have hn0 : n0 ≤ h0.size := O0.1 ▸ O0.2.1
 have pre0 : ∀ t, SS p e below s₁ m 0 #[vR a1, vI 0, vR a2] [] t → SE p e below s₁ m #[(.ref a1), (.int 0), (.ref a2)] 3 t := fun t k => castTop (ef_rmPsaL m a1 a2) k
 have lt_a1 : @LT.lt Nat _ a1 h0.size := Eb.lt
 have lt_v1 : @LT.lt Nat _ v1 h0.size := Vb.lt
 have lt_a2 : @LT.lt Nat _ a2 h0.size := E2.lt
 have lt_t2 : @LT.lt Nat _ t2 h0.size := V2.lt
 obtain ⟨cq101, kq101, q101a, q101b, q101c⟩ := isOf hZ e0 Eb
 obtain ⟨_, _, ⟨T101, L101, k101, n101⟩, -, X101, ⟨Lc101, hQ101, l101, y101, z101⟩, st101⟩ := X0.virtualBack hx (y := mN24) (z := mN24) hown (mvT hZ (tw hw 87 rfl)) (mvT hZ (own_decl (tw hw 88 rfl) (tw hw 91 rfl))) (own_nface (a0 := #[]) (y := mN24) (mvT hZ (tw hw 80 rfl)) rfl) (mvT hZ (tw hw 90 rfl)) (mvT hZ (tw hw 88 rfl)) (by decide) (backOf (W := 0) (rmInfL l Z a0 hw [] a1 a2 cs cs0 t2 k2 v1 kv h0 n0 O0 S_CS c_CS E2 Fv2 Fc2 V2 hn Eb Bv Bc Bn Bm Vb (by omega : @LE.le Nat _ n0 a1) (by omega : @LE.le Nat _ n0 v1) (by omega) (by omega) (by omega) (by omega) (by omega)) hZ (tw hw 91 rfl) (tw hw 41 rfl) (by decide) (by decide)) q101a q101c (g := (mkF m 2 #[vR a1, vI 0, vR a2] [(.ref a2), (.ref a1)])) rfl (by rw [hml]; rfl) (Steps.refl _) (argsL := [(.ref a2)]) (rest := []) (lenOf pd_5 rfl) rfl (wL _) (hb hby d14_2) (fun _ _ => ⟨rfl, e0, (by decide : 0 + 0 ≤ _), (by decide : 0 + 0 ≤ _)⟩)
 dsimp only [Pt.U, Pt.locs, Pt.cells, Pt.slots] at X101 l101 y101 z101 st101 hQ101
 subst l101 y101 z101
 obtain ⟨rfl, N101q, H101⟩ := hQ101
 have N101 := Fr.app N0 N101q
 obtain ⟨T102, X102, e102, st102⟩ := getF X101 hx hZ hown (host := "") (Or.inl (tw hw 59 rfl)) Via.refl H101 Bv (g := (mkF m 7 #[vR a1, vI 0, vR a2] [(.ref a1), (.ref a2)])) rfl rfl (hb hby d14_7)
 obtain ⟨T103, X103, e103, st103⟩ := getF X102 hx hZ hown (host := "") (Or.inl (tw hw 57 rfl)) Via.refl e102 Bc (g := (mkF m 12 #[vR a1, vI 0, vR a2] [(.ref a1), (.int 0), (.ref v1), (.ref a2)])) rfl rfl (hb hby d14_12)
 obtain ⟨cq104, kq104, q104a, q104b, q104c⟩ := isOf hZ e103 E2
 obtain ⟨_, _, ⟨T104, L104, k104, n104⟩, -, X104, ⟨Lc104, hQ104, l104, y104, z104⟩, st104⟩ := X103.virtualBack hx (y := mN23) (z := mN23) hown (mvT hZ (tw hw 93 rfl)) (mvT hZ (tw hw 94 rfl)) (notFace_of_selects (args := #[]) (mvT hZ (tw hw 96 rfl))) (mvT hZ (tw hw 96 rfl)) (mvT hZ (tw hw 95 rfl)) (by decide) (backOf (W := 0) (rmGbL l Z a0 hw [] a2 v1 cs cs0 t2 k2 kv h0 n0 O0 S_CS c_CS E2 Fv2 Fc2 V2 hn (by omega : @LE.le Nat _ n0 v1) Vb (by omega)) hZ (tw hw 97 rfl) (tw hw 8 rfl) (by decide) (by decide)) q104a q104c (g := (mkF m 15 #[vR a1, vI 0, vR a2] [(.int 0), (.int 0), (.ref v1), (.ref a2)])) rfl (by rw [hml]; rfl) (Steps.refl _) (argsL := [(.ref v1), (.int 0), (.int 0)]) (rest := []) (lenOf pd_12 rfl) rfl (wL _) (hb hby d14_15) (fun _ _ => ⟨rfl, e103, (by decide : 0 + 0 ≤ _), (by decide : 0 + 0 ≤ _)⟩)
 dsimp only [Pt.U, Pt.locs, Pt.cells, Pt.slots] at X104 l104 y104 z104 st104 hQ104
 subst l104 y104 z104
 obtain ⟨rfl, N104q, K104, V104⟩ := hQ104
 have sz1_K104 := K104.1
 have N104 := Fr.app N101 N104q
 have KC105 : Keep h0 T104.heap [v1] := (Keep.refl h0 [v1]).trans K104 (allS (Or.inl (List.mem_of_getElem? (i := 0) rfl)) (all0))
 obtain ⟨fs, hr, hrun, hended, hW, hsame⟩ := X104.leave (v := none) (fun _ => rfl)
 refine ⟨_, _, pre0 _ ?_, hrun, hended, _, _, rfl, ?_, ⟨_, rfl⟩, hW, hsame.mono (by decide) (by decide)⟩
 ·skip
  show SS p e below s₁ m 0 #[vR a1, vI 0, vR a2] [] _
  refine XS.aloadN X0.here hx rfl (hb hby d14_0) rfl rfl ?_
  refine XS.aloadN X0.here hx rfl (hb hby d14_1) rfl rfl ?_
  show SS p e below s₁ m 2 #[vR a1, vI 0, vR a2] [(.ref a2), (.ref a1)] _
  refine st101.trans ?_
  refine XS.aloadN X101.here hx rfl (hb hby d14_5) rfl rfl ?_
  refine XS.aloadN X101.here hx rfl (hb hby d14_6) rfl rfl ?_
  show SS p e below T101 m 7 #[vR a1, vI 0, vR a2] [(.ref a1), (.ref a2)] _
  refine st102 _ ?_
  refine XS.iloadN X102.here hx rfl (hb hby d14_10) rfl ?_
  refine XS.aloadN X102.here hx rfl (hb hby d14_11) rfl rfl ?_
  show SS p e below T102 m 12 #[vR a1, vI 0, vR a2] [(.ref a1), (.int 0), (.ref v1), (.ref a2)] _
  refine st103 _ ?_
  show SS p e below T103 m 15 #[vR a1, vI 0, vR a2] [(.int 0), (.int 0), (.ref v1), (.ref a2)] _
  refine st104.trans ?_
  show SS p e below T104 m 18 #[vR a1, vI 0, vR a2] [] _
  exact X104.returnOut hx Bd.returns (hb hby d14_18) hr
 ·show Q_rmPsaL Z a1 a2 cs cs0 t2 k2 v1 kv h0 n0 _ T104.heap _
  exact ⟨rfl, N104, KC105, V104⟩
theorem d13_0 : DK cD26 0 (.aload_n 0) 1 := by decide +kernel
theorem d13_1 : DK cD26 1 (.getfield 15) 3 := by decide +kernel
theorem d13_4 : DK cD26 4 (.arraylength) 1 := by decide +kernel
theorem d13_5 : DK cD26 5 (.aload_n 0) 1 := by decide +kernel
theorem d13_6 : DK cD26 6 (.getfield 22) 3 := by decide +kernel
theorem d13_9 : DK cD26 9 (.ishr) 1 := by decide +kernel
theorem d13_10 : DK cD26 10 (.istore_n 2) 1 := by decide +kernel
theorem d13_11 : DK cD26 11 (.iload_n 1) 1 := by decide +kernel
theorem d13_12 : DK cD26 12 (.iload_n 2) 1 := by decide +kernel
theorem d13_13 : DK cD26 13 (.isub) 1 := by decide +kernel
theorem d13_14 : DK cD26 14 (.ifCond .le 24) 3 := by decide +kernel
theorem d13_38 : DK cD26 38 (.return_) 1 := by decide +kernel
theorem ef_rmEnsL (m : MethodId) (y0 : Addr) (y1 : Int32) : entryFrame m #[(.ref y0), (.int y1)] 3 = (mkF m 0 #[vR y0, vI y1, .unset] []) := by first | (simp [entryFrame, mkF, argsToLocals, Value.category]; done) | rfl
def Q_rmEnsL (Z : State) (a1 : Addr) (cs : List Int32) (v1 : Addr) (kv : ClassId) (h0 : Heap) (n0 : Nat) (v : Option Value) (h : Heap) (L : List Loc) : Prop := v = none ∧ Fr n0 L ∧ h = h0
theorem rmEnsL (l : Launch) (Z : State) (a0 : Array Value) (hw : HW a0 Z) (ws : List Jvm.Cond) (a1 : Addr) (cs : List Int32) (v1 : Addr) (kv : ClassId) (h0 : Heap) (n0 : Nat) (O0 : Old Z n0 h0) (Eb : Exa Z h0 a1 "java/lang/StringBuilder") (Bv : Fld Z h0 a1 "java/lang/AbstractStringBuilder" "value" "[B" (.ref v1)) (Bc : Fld Z h0 a1 "java/lang/AbstractStringBuilder" "coder" "B" (.int 0)) (Vb : Arv Z h0 v1 kv .byte (oN ((lat cs).length + 16)) (List.replicate ((lat cs).length + 16) (.int 0)) (.int 0)) (hn : (lat cs).length ≤ 4) :
  MF l mN26 jdk_68_method_9_code 3 none ws (Rm 0 0 0 0) Z #[(.ref a1), (.int (oN (lat cs).length))] h0 (Q_rmEnsL Z a1 cs v1 kv h0 n0) := by
 refine MetFree.of_bodySF (plainFor_of_name pn_7) hisR ?_
 intro p e s m args below meth c s₁ Bd hml0 hP hK
 obtain ⟨rfl, hZ, hh⟩ := hP
 have hx := Bd.exec
 have hby := Bd.bytes
 have hml : c.maxLocals = 3 := hml0
 have hown : s.vm.findClass "java/lang/AbstractStringBuilder" = some m.cls := findClass_of_methodNamed Bd.named
 have X0 : Stand p l e (Rm 0 0 0 0) s m #[(.ref a1), (.int (oN (lat cs).length))] below meth c s₁ [] 0 0 := Stand.of_body Bd
 have e0 : s₁.heap = h0 := by rw [← hh, Bd.state]; rfl
 have N0 := Fr.nil n0
 have hn0 : n0 ≤ h0.size := O0.1 ▸ O0.2.1
 have pre0 : ∀ t, SS p e below s₁ m 0 #[vR a1, vI (oN (lat cs).length), .unset] [] t → SE p e below s₁ m #[(.ref a1), (.int (oN (lat cs).length))] 3 t := fun t k => castTop (ef_rmEnsL m a1 ((oN (lat cs).length))) k
 obtain ⟨T101, X101, e101, st101⟩ := getF X0 hx hZ hown (host := "") (Or.inl (tw hw 59 rfl)) Via.refl e0 Bv (g := (mkF m 1 #[vR a1, vI (oN (lat cs).length), .unset] [(.ref a1)])) rfl rfl (hb hby d13_1)
 obtain ⟨cl102, Ar102, q102, S102, Nn102, H102, G102⟩ := id Vb
 obtain ⟨T103, X103, e103, st103⟩ := getF X101 hx hZ hown (host := "") (Or.inl (tw hw 57 rfl)) Via.refl e101 Bc (g := (mkF m 6 #[vR a1, vI (oN (lat cs).length), .unset] [(.ref a1), (.int (oN ((lat cs).length + 16)))])) rfl rfl (hb hby d13_6)
 have hr104 : ((oN ((lat cs).length + 16)) >>> ((0 : Int32) &&& 31)) = (oN ((lat cs).length + 16)) := own_shr0 _
 obtain ⟨fs, hr, hrun, hended, hW, hsame⟩ := X103.leave (v := none) (fun _ => rfl)
 refine ⟨_, _, pre0 _ ?_, hrun, hended, _, _, rfl, ?_, ⟨_, rfl⟩, hW, hsame.mono (by decide) (by decide)⟩
 ·skip
  show SS p e below s₁ m 0 #[vR a1, vI (oN (lat cs).length), .unset] [] _
  refine XS.aloadN X0.here hx rfl (hb hby d13_0) rfl rfl ?_
  show SS p e below s₁ m 1 #[vR a1, vI (oN (lat cs).length), .unset] [(.ref a1)] _
  refine st101 _ ?_
  show SS p e below T101 m 4 #[vR a1, vI (oN (lat cs).length), .unset] [(.ref v1)] _
  refine X101.arraylength hx (by rw [e101]; exact Ar102.1) (State.isArrayOf_alike hZ.alike Ar102.2.1) (g := (mkF m 4 #[vR a1, vI (oN (lat cs).length), .unset] [(.ref v1)])) rfl rfl (hb hby d13_4) _ ?_
  rw [len_of S102 Nn102]
  refine XS.aloadN X101.here hx rfl (hb hby d13_5) rfl rfl ?_
  show SS p e below T101 m 6 #[vR a1, vI (oN (lat cs).length), .unset] [(.ref a1), (.int (oN ((lat cs).length + 16)))] _
  refine st103 _ ?_
  show SS p e below T103 m 9 #[vR a1, vI (oN (lat cs).length), .unset] [(.int 0), (.int (oN ((lat cs).length + 16)))] _
  refine XS.ishr X103.here hx rfl (hb hby d13_9) rfl ?_
  show SS p e below T103 m 10 #[vR a1, vI (oN (lat cs).length), .unset] [(.int ((oN ((lat cs).length + 16)) >>> ((0 : Int32) &&& 31)))] _
  rw [hr104]
  refine XS.istoreN X103.here hx rfl (hb hby d13_10) rfl (l' := #[vR a1, vI (oN (lat cs).length), vI (oN ((lat cs).length + 16))]) rfl ?_
  refine XS.iloadN X103.here hx rfl (hb hby d13_11) rfl ?_
  refine XS.iloadN X103.here hx rfl (hb hby d13_12) rfl ?_
  refine XS.isub X103.here hx rfl (hb hby d13_13) rfl ?_
  refine XS.ifYes X103.here hx rfl (pc0 := 14) (pc' := 38) rfl (hb hby d13_14) rfl ((if0 _ _).trans (flt (own_subn (by omega) (by omega) : ¬ ((0 : Int32) < ((oN (lat cs).length) - (oN ((lat cs).length + 16)))))).2.2.2) (by decide) (by decide) ?_
  show SS p e below T103 m 38 #[vR a1, vI (oN (lat cs).length), vI (oN ((lat cs).length + 16))] [] _
  exact X103.returnOut hx Bd.returns (hb hby d13_38) hr
 ·show Q_rmEnsL Z a1 cs v1 kv h0 n0 _ T103.heap _
  rw [e103]
  exact ⟨rfl, N0, rfl⟩
theorem d12_0 : DK cD27 0 (.aload_n 1) 1 := by decide +kernel
theorem d12_1 : DK cD27 1 (.ifnonnull 8) 3 := by decide +kernel
theorem d12_9 : DK cD27 9 (.aload_n 1) 1 := by decide +kernel
theorem d12_10 : DK cD27 10 (.invokevirtual 32) 3 := by decide +kernel
theorem d12_13 : DK cD27 13 (.istore_n 2) 1 := by decide +kernel
theorem d12_14 : DK cD27 14 (.aload_n 0) 1 := by decide +kernel
theorem d12_15 : DK cD27 15 (.aload_n 0) 1 := by decide +kernel
theorem d12_16 : DK cD27 16 (.getfield 79) 3 := by decide +kernel
theorem d12_19 : DK cD27 19 (.iload_n 2) 1 := by decide +kernel
theorem d12_20 : DK cD27 20 (.iadd) 1 := by decide +kernel
theorem d12_21 : DK cD27 21 (.invokevirtual 100) 3 := by decide +kernel
theorem d12_24 : DK cD27 24 (.aload_n 0) 1 := by decide +kernel
theorem d12_25 : DK cD27 25 (.aload_n 0) 1 := by decide +kernel
theorem d12_26 : DK cD27 26 (.getfield 79) 3 := by decide +kernel
theorem d12_29 : DK cD27 29 (.aload_n 1) 1 := by decide +kernel
theorem d12_30 : DK cD27 30 (.invokevirtual 208) 3 := by decide +kernel
theorem d12_33 : DK cD27 33 (.aload_n 0) 1 := by decide +kernel
theorem d12_34 : DK cD27 34 (.dup) 1 := by decide +kernel
theorem d12_35 : DK cD27 35 (.getfield 79) 3 := by decide +kernel
theorem d12_38 : DK cD27 38 (.iload_n 2) 1 := by decide +kernel
theorem d12_39 : DK cD27 39 (.iadd) 1 := by decide +kernel
theorem d12_40 : DK cD27 40 (.putfield 79) 3 := by decide +kernel
theorem d12_43 : DK cD27 43 (.aload_n 0) 1 := by decide +kernel
theorem d12_44 : DK cD27 44 (.areturn) 1 := by decide +kernel
theorem pd_10 : parseMethodDescriptor "(I)V" = some ⟨[.int], none⟩ := by decide +kernel
theorem pd_11 : parseMethodDescriptor "(ILjava/lang/String;)V" = some ⟨[.int, (.object "java/lang/String")], none⟩ := by decide +kernel
theorem ef_rmApL (m : MethodId) (y0 : Addr) (y1 : Addr) : entryFrame m #[(.ref y0), (.ref y1)] 3 = (mkF m 0 #[vR y0, vR y1, .unset] []) := by first | (simp [entryFrame, mkF, argsToLocals, Value.category]; done) | rfl
def Q_rmApL (Z : State) (a1 : Addr) (a2 : Addr) (cs : List Int32) (cs0 : Int32) (t2 : Addr) (k2 : ClassId) (v1 : Addr) (kv : ClassId) (h0 : Heap) (n0 : Nat) (v : Option Value) (h : Heap) (L : List Loc) : Prop := v = some (.ref a1) ∧ Fr n0 L ∧ Keep h0 h [a1, v1] ∧ Exa Z h a1 "java/lang/StringBuilder" ∧ Fld Z h a1 "java/lang/AbstractStringBuilder" "value" "[B" (.ref v1) ∧ Fld Z h a1 "java/lang/AbstractStringBuilder" "coder" "B" (.int 0) ∧ Fld Z h a1 "java/lang/AbstractStringBuilder" "count" "I" (.int (oN (lat cs).length)) ∧ Fld Z h a1 "java/lang/AbstractStringBuilder" "maybeLatin1" "Z" (.int 0) ∧ Arv Z h v1 kv .byte (oN ((lat cs).length + 16)) ((lat cs).map Value.int) (.int 0)
theorem rmApL (l : Launch) (Z : State) (a0 : Array Value) (hw : HW a0 Z) (ws : List Jvm.Cond) (a1 : Addr) (a2 : Addr) (cs : List Int32) (cs0 : Int32) (t2 : Addr) (k2 : ClassId) (v1 : Addr) (kv : ClassId) (h0 : Heap) (n0 : Nat) (O0 : Old Z n0 h0) (S_CS : SCS Z cs0) (c_CS : ¬ (cs0 = (0 : Int32))) (E2 : Exa Z h0 a2 "java/lang/String") (Fv2 : Fld Z h0 a2 "java/lang/String" "value" "[B" (.ref t2)) (Fc2 : Fld Z h0 a2 "java/lang/String" "coder" "B" (.int 0)) (V2 : Arv Z h0 t2 k2 .byte (oN (lat cs).length) ((lat cs).map Value.int) (.int 0)) (hn : (lat cs).length ≤ 4) (Eb : Exa Z h0 a1 "java/lang/StringBuilder") (Bv : Fld Z h0 a1 "java/lang/AbstractStringBuilder" "value" "[B" (.ref v1)) (Bc : Fld Z h0 a1 "java/lang/AbstractStringBuilder" "coder" "B" (.int 0)) (Bn : Fld Z h0 a1 "java/lang/AbstractStringBuilder" "count" "I" (.int 0)) (Bm : Fld Z h0 a1 "java/lang/AbstractStringBuilder" "maybeLatin1" "Z" (.int 0)) (Vb : Arv Z h0 v1 kv .byte (oN ((lat cs).length + 16)) (List.replicate ((lat cs).length + 16) (.int 0)) (.int 0)) (g1 : n0 ≤ a1) (gv : n0 ≤ v1) (nv1 : @Ne Nat v1 a1) (nv2 : @Ne Nat v1 a2) (nv3 : @Ne Nat v1 t2) (na2 : @Ne Nat a1 a2) (na3 : @Ne Nat a1 t2) :
  MF l mN27 jdk_68_method_22_code 3 (some (.object "java/lang/AbstractStringBuilder")) ws (Rm 3 0 0 120) Z #[(.ref a1), (.ref a2)] h0 (Q_rmApL Z a1 a2 cs cs0 t2 k2 v1 kv h0 n0) := by
 refine MetFree.of_bodySF (plainFor_of_name pn_7) hisR ?_
 intro p e s m args below meth c s₁ Bd hml0 hP hK
 obtain ⟨rfl, hZ, hh⟩ := hP
 have hx := Bd.exec
 have hby := Bd.bytes
 have hml : c.maxLocals = 3 := hml0
 have hown : s.vm.findClass "java/lang/AbstractStringBuilder" = some m.cls := findClass_of_methodNamed Bd.named
 have X0 : Stand p l e (Rm 3 0 0 120) s m #[(.ref a1), (.ref a2)] below meth c s₁ [] 0 0 := Stand.of_body Bd
 have e0 : s₁.heap = h0 := by rw [← hh, Bd.state]; rfl
 have N0 := Fr.nil n0
 have hn0 : n0 ≤ h0.size := O0.1 ▸ O0.2.1
 have pre0 : ∀ t, SS p e below s₁ m 0 #[vR a1, vR a2, .unset] [] t → SE p e below s₁ m #[(.ref a1), (.ref a2)] 3 t := fun t k => castTop (ef_rmApL m a1 a2) k
 have lt_a1 : @LT.lt Nat _ a1 h0.size := Eb.lt
 have lt_v1 : @LT.lt Nat _ v1 h0.size := Vb.lt
 have lt_a2 : @LT.lt Nat _ a2 h0.size := E2.lt
 have lt_t2 : @LT.lt Nat _ t2 h0.size := V2.lt
 obtain ⟨cq101, kq101, q101a, q101b, q101c⟩ := isOf hZ e0 E2
 obtain ⟨_, _, ⟨T101, L101, k101, n101⟩, -, X101, ⟨Lc101, hQ101, l101, y101, z101⟩, st101⟩ := X0.virtualBack hx (y := mN12) (z := mN12) hown (mvT hZ (tw hw 44 rfl)) (mvT hZ (tw hw 45 rfl)) (notFace_of_selects (args := #[]) (mvT hZ (tw hw 47 rfl))) (mvT hZ (tw hw 47 rfl)) (mvT hZ (tw hw 46 rfl)) (by decide) (backOf (W := 0) (rmLenL l Z a0 hw [] a2 (lat cs) t2 k2 cs0 h0 n0 O0 S_CS c_CS E2 Fv2 Fc2 V2 hn) hZ (tw hw 48 rfl) (tw hw 8 rfl) (by decide) (by decide)) q101a q101c (g := (mkF m 10 #[vR a1, vR a2, .unset] [(.ref a2)])) rfl (by rw [hml]; rfl) (Steps.refl _) (argsL := []) (rest := []) (lenOf pd_6 rfl) rfl (wL _) (hb hby d12_10) (fun _ _ => ⟨rfl, e0, (by decide : 0 + 0 ≤ _), (by decide : 0 + 0 ≤ _)⟩)
 dsimp only [Pt.U, Pt.locs, Pt.cells, Pt.slots] at X101 l101 y101 z101 st101 hQ101
 subst l101 y101 z101
 obtain ⟨rfl, N101q, H101⟩ := hQ101
 have N101 := Fr.app N0 N101q
 obtain ⟨T102, X102, e102, st102⟩ := getF X101 hx hZ hown (host := "") (Or.inl (tw hw 75 rfl)) Via.refl H101 Bn (g := (mkF m 16 #[vR a1, vR a2, vI (oN (lat cs).length)] [(.ref a1), (.ref a1)])) rfl rfl (hb hby d12_16)
 have hr103 : ((0 : Int32) + (oN (lat cs).length)) = (oN (lat cs).length) := Int32.zero_add _
 obtain ⟨cq104, kq104, q104a, q104b, q104c⟩ := isOf hZ e102 Eb
 obtain ⟨_, _, ⟨T104, L104, k104, n104⟩, -, X104, ⟨Lc104, hQ104, l104, y104, z104⟩, st104⟩ := X102.virtualBack hx (y := mN26) (z := mN26) hown (mvT hZ (tw hw 77 rfl)) (mvT hZ (own_decl (tw hw 78 rfl) (tw hw 81 rfl))) (own_nface (a0 := #[]) (y := mN26) (mvT hZ (tw hw 80 rfl)) rfl) (mvT hZ (tw hw 80 rfl)) (mvT hZ (tw hw 78 rfl)) (by decide) (backOf (W := 0) (rmEnsL l Z a0 hw [] a1 cs v1 kv h0 n0 O0 Eb Bv Bc Vb hn) hZ (tw hw 81 rfl) (tw hw 41 rfl) (by decide) (by decide)) q104a q104c (g := (mkF m 21 #[vR a1, vR a2, vI (oN (lat cs).length)] [(.int (oN (lat cs).length)), (.ref a1)])) rfl (by rw [hml]; rfl) (Steps.refl _) (argsL := [(.int (oN (lat cs).length))]) (rest := []) (lenOf pd_10 rfl) rfl (wL _) (hb hby d12_21) (fun _ _ => ⟨rfl, e102, (by decide : 0 + 0 ≤ _), (by decide : 0 + 0 ≤ _)⟩)
 dsimp only [Pt.U, Pt.locs, Pt.cells, Pt.slots] at X104 l104 y104 z104 st104 hQ104
 subst l104 y104 z104
 obtain ⟨rfl, N104q, H104⟩ := hQ104
 have N104 := Fr.app N101 N104q
 obtain ⟨T105, X105, e105, st105⟩ := getF X104 hx hZ hown (host := "") (Or.inl (tw hw 75 rfl)) Via.refl H104 Bn (g := (mkF m 26 #[vR a1, vR a2, vI (oN (lat cs).length)] [(.ref a1), (.ref a1)])) rfl rfl (hb hby d12_26)
 obtain ⟨cq106, kq106, q106a, q106b, q106c⟩ := isOf hZ e105 Eb
 obtain ⟨_, _, ⟨T106, L106, k106, n106⟩, -, X106, ⟨Lc106, hQ106, l106, y106, z106⟩, st106⟩ := X105.virtualBack hx (y := mN25) (z := mN25) hown (mvT hZ (tw hw 82 rfl)) (mvT hZ (own_decl (tw hw 83 rfl) (tw hw 86 rfl))) (own_nface (a0 := #[]) (y := mN25) (mvT hZ (tw hw 80 rfl)) rfl) (mvT hZ (tw hw 85 rfl)) (mvT hZ (tw hw 83 rfl)) (by decide) (backOf (W := 0) (rmPsaL l Z a0 hw [] a1 a2 cs cs0 t2 k2 v1 kv h0 n0 O0 S_CS c_CS E2 Fv2 Fc2 V2 hn Eb Bv Bc Bn Bm Vb (by omega : @LE.le Nat _ n0 a1) (by omega : @LE.le Nat _ n0 v1) (by omega) (by omega) (by omega) (by omega) (by omega)) hZ (tw hw 86 rfl) (tw hw 41 rfl) (by decide) (by decide)) q106a q106c (g := (mkF m 30 #[vR a1, vR a2, vI (oN (lat cs).length)] [(.ref a2), (.int 0), (.ref a1)])) rfl (by rw [hml]; rfl) (Steps.refl _) (argsL := [(.int 0), (.ref a2)]) (rest := []) (lenOf pd_11 rfl) rfl (wL _) (hb hby d12_30) (fun _ _ => ⟨rfl, e105, (by decide : 0 + 0 ≤ _), (by decide : 0 + 0 ≤ _)⟩)
 dsimp only [Pt.U, Pt.locs, Pt.cells, Pt.slots] at X106 l106 y106 z106 st106 hQ106
 subst l106 y106 z106
 obtain ⟨rfl, N106q, K106, V106⟩ := hQ106
 have sz1_K106 := K106.1
 have N106 := Fr.app N104 N106q
 have C107 := Bn.keep K106 (ninS (by omega : @Ne Nat a1 v1) (nin0))
 obtain ⟨T108, X108, e108, st108⟩ := getF X106 hx hZ hown (host := "") (Or.inl (tw hw 75 rfl)) Via.refl rfl C107 (g := (mkF m 35 #[vR a1, vR a2, vI (oN (lat cs).length)] [(.ref a1), (.ref a1)])) rfl rfl (hb hby d12_35)
 have hr109 : ((0 : Int32) + (oN (lat cs).length)) = (oN (lat cs).length) := Int32.zero_add _
 have C110 := Eb.keep K106
 obtain ⟨T111, h111, X111, e111, W111, st111⟩ := putF X108 hx hZ hown (host := "") (Or.inl (tw hw 75 rfl)) Via.refl e108 C107 C110 (Or.inl (tw hw 76 rfl)) (tw hw 32 rfl) (ty := .int) (by decide) rfl rfl (g := (mkF m 40 #[vR a1, vR a2, vI (oN (lat cs).length)] [(.int (oN (lat cs).length)), (.ref a1)])) rfl rfl (hb hby d12_40)
 have K111 := Keep.of_wr W111
 have Fw111 := Fld.same W111 C107
 have N111 := Fr.snoc X111 N106 (by omega : @LE.le Nat _ n0 a1)
 have sz2_K111 := K111.1
 have KC112 : Keep h0 T106.heap [a1, v1] := (Keep.refl h0 [a1, v1]).trans K106 (allS (Or.inl (List.mem_of_getElem? (i := 1) rfl)) (all0))
 have KC113 : Keep h0 h111 [a1, v1] := KC112.trans K111 (allS (Or.inl (List.mem_of_getElem? (i := 0) rfl)) (all0))
 have C114 := C110.keep K111
 have C115 := Bv.keep K106 (ninS (by omega : @Ne Nat a1 v1) (nin0))
 have C116 := Fld.other W111 C115 (Or.inr (slot_ne (Or.inl (tw hw 60 rfl)) (Or.inl (tw hw 76 rfl)) (by decide) (t := (.array .byte)) (t' := .int) (by decide) (by decide)))
 have C117 := Bc.keep K106 (ninS (by omega : @Ne Nat a1 v1) (nin0))
 have C118 := Fld.other W111 C117 (Or.inr (slot_ne (Or.inl (tw hw 58 rfl)) (Or.inl (tw hw 76 rfl)) (by decide) (t := .byte) (t' := .int) (by decide) (by decide)))
 have C119 := Bm.keep K106 (ninS (by omega : @Ne Nat a1 v1) (nin0))
 have C120 := Fld.other W111 C119 (Or.inr (slot_ne (Or.inl (tw hw 242 rfl)) (Or.inl (tw hw 76 rfl)) (by decide) (t := .boolean) (t' := .int) (by decide) (by decide)))
 have C121 := V106.keep K111 (ninS (by omega : @Ne Nat v1 a1) (nin0))
 obtain ⟨fs, hr, hrun, hended, hW, hsame⟩ := X111.leave (v := some (.ref a1)) (nvr Bd.returns)
 refine ⟨_, _, pre0 _ ?_, hrun, hended, _, _, rfl, ?_, ⟨_, rfl⟩, hW, hsame.mono (by decide) (by decide)⟩
 ·skip
  show SS p e below s₁ m 0 #[vR a1, vR a2, .unset] [] _
  refine XS.aloadN X0.here hx rfl (hb hby d12_0) rfl rfl ?_
  refine XS.ifnonnullYes X0.here hx rfl (pc0 := 1) (pc' := 9) rfl (hb hby d12_1) rfl (by decide) (by decide) ?_
  refine XS.aloadN X0.here hx rfl (hb hby d12_9) rfl rfl ?_
  show SS p e below s₁ m 10 #[vR a1, vR a2, .unset] [(.ref a2)] _
  refine st101.trans ?_
  refine XS.istoreN X101.here hx rfl (hb hby d12_13) rfl (l' := #[vR a1, vR a2, vI (oN (lat cs).length)]) rfl ?_
  refine XS.aloadN X101.here hx rfl (hb hby d12_14) rfl rfl ?_
  refine XS.aloadN X101.here hx rfl (hb hby d12_15) rfl rfl ?_
  show SS p e below T101 m 16 #[vR a1, vR a2, vI (oN (lat cs).length)] [(.ref a1), (.ref a1)] _
  refine st102 _ ?_
  refine XS.iloadN X102.here hx rfl (hb hby d12_19) rfl ?_
  refine XS.iadd X102.here hx rfl (hb hby d12_20) rfl ?_
  show SS p e below T102 m 21 #[vR a1, vR a2, vI (oN (lat cs).length)] [(.int ((0 : Int32) + (oN (lat cs).length))), (.ref a1)] _
  rw [hr103]
  show SS p e below T102 m 21 #[vR a1, vR a2, vI (oN (lat cs).length)] [(.int (oN (lat cs).length)), (.ref a1)] _
  refine st104.trans ?_
  refine XS.aloadN X104.here hx rfl (hb hby d12_24) rfl rfl ?_
  refine XS.aloadN X104.here hx rfl (hb hby d12_25) rfl rfl ?_
  show SS p e below T104 m 26 #[vR a1, vR a2, vI (oN (lat cs).length)] [(.ref a1), (.ref a1)] _
  refine st105 _ ?_
  refine XS.aloadN X105.here hx rfl (hb hby d12_29) rfl rfl ?_
  show SS p e below T105 m 30 #[vR a1, vR a2, vI (oN (lat cs).length)] [(.ref a2), (.int 0), (.ref a1)] _
  refine st106.trans ?_
  refine XS.aloadN X106.here hx rfl (hb hby d12_33) rfl rfl ?_
  refine XS.dup X106.here hx rfl (hb hby d12_34) rfl rfl ?_
  show SS p e below T106 m 35 #[vR a1, vR a2, vI (oN (lat cs).length)] [(.ref a1), (.ref a1)] _
  refine st108 _ ?_
  refine XS.iloadN X108.here hx rfl (hb hby d12_38) rfl ?_
  refine XS.iadd X108.here hx rfl (hb hby d12_39) rfl ?_
  show SS p e below T108 m 40 #[vR a1, vR a2, vI (oN (lat cs).length)] [(.int ((0 : Int32) + (oN (lat cs).length))), (.ref a1)] _
  rw [hr109]
  show SS p e below T108 m 40 #[vR a1, vR a2, vI (oN (lat cs).length)] [(.int (oN (lat cs).length)), (.ref a1)] _
  refine st111 _ ?_
  refine XS.aloadN X111.here hx rfl (hb hby d12_43) rfl rfl ?_
  show SS p e below T111 m 44 #[vR a1, vR a2, vI (oN (lat cs).length)] [(.ref a1)] _
  exact X111.areturnOut hx rfl Bd.returns rfl (hb hby d12_44) hr
 ·show Q_rmApL Z a1 a2 cs cs0 t2 k2 v1 kv h0 n0 _ T111.heap _
  rw [e111]
  exact ⟨rfl, N111, KC113, C114, C116, C118, Fw111, C120, C121⟩
theorem d11_0 : DK cD28 0 (.aload_n 0) 1 := by decide +kernel
theorem d11_1 : DK cD28 1 (.aload_n 1) 1 := by decide +kernel
theorem d11_2 : DK cD28 2 (.invokespecial 29) 3 := by decide +kernel
theorem d11_5 : DK cD28 5 (.pop) 1 := by decide +kernel
theorem d11_6 : DK cD28 6 (.aload_n 0) 1 := by decide +kernel
theorem d11_7 : DK cD28 7 (.areturn) 1 := by decide +kernel
theorem pd_8 : parseMethodDescriptor "(Ljava/lang/String;)Ljava/lang/AbstractStringBuilder;" = some ⟨[(.object "java/lang/String")], some (.object "java/lang/AbstractStringBuilder")⟩ := by decide +kernel
theorem ef_rmSaL (m : MethodId) (y0 : Addr) (y1 : Addr) : entryFrame m #[(.ref y0), (.ref y1)] 2 = (mkF m 0 #[vR y0, vR y1] []) := by first | (simp [entryFrame, mkF, argsToLocals, Value.category]; done) | rfl
def Q_rmSaL (Z : State) (a1 : Addr) (a2 : Addr) (cs : List Int32) (cs0 : Int32) (t2 : Addr) (k2 : ClassId) (v1 : Addr) (kv : ClassId) (h0 : Heap) (n0 : Nat) (v : Option Value) (h : Heap) (L : List Loc) : Prop := v = some (.ref a1) ∧ Fr n0 L ∧ Keep h0 h [a1, v1] ∧ Exa Z h a1 "java/lang/StringBuilder" ∧ Fld Z h a1 "java/lang/AbstractStringBuilder" "value" "[B" (.ref v1) ∧ Fld Z h a1 "java/lang/AbstractStringBuilder" "coder" "B" (.int 0) ∧ Fld Z h a1 "java/lang/AbstractStringBuilder" "count" "I" (.int (oN (lat cs).length)) ∧ Fld Z h a1 "java/lang/AbstractStringBuilder" "maybeLatin1" "Z" (.int 0) ∧ Arv Z h v1 kv .byte (oN ((lat cs).length + 16)) ((lat cs).map Value.int) (.int 0)
theorem rmSaL (l : Launch) (Z : State) (a0 : Array Value) (hw : HW a0 Z) (ws : List Jvm.Cond) (a1 : Addr) (a2 : Addr) (cs : List Int32) (cs0 : Int32) (t2 : Addr) (k2 : ClassId) (v1 : Addr) (kv : ClassId) (h0 : Heap) (n0 : Nat) (O0 : Old Z n0 h0) (S_CS : SCS Z cs0) (c_CS : ¬ (cs0 = (0 : Int32))) (E2 : Exa Z h0 a2 "java/lang/String") (Fv2 : Fld Z h0 a2 "java/lang/String" "value" "[B" (.ref t2)) (Fc2 : Fld Z h0 a2 "java/lang/String" "coder" "B" (.int 0)) (V2 : Arv Z h0 t2 k2 .byte (oN (lat cs).length) ((lat cs).map Value.int) (.int 0)) (hn : (lat cs).length ≤ 4) (Eb : Exa Z h0 a1 "java/lang/StringBuilder") (Bv : Fld Z h0 a1 "java/lang/AbstractStringBuilder" "value" "[B" (.ref v1)) (Bc : Fld Z h0 a1 "java/lang/AbstractStringBuilder" "coder" "B" (.int 0)) (Bn : Fld Z h0 a1 "java/lang/AbstractStringBuilder" "count" "I" (.int 0)) (Bm : Fld Z h0 a1 "java/lang/AbstractStringBuilder" "maybeLatin1" "Z" (.int 0)) (Vb : Arv Z h0 v1 kv .byte (oN ((lat cs).length + 16)) (List.replicate ((lat cs).length + 16) (.int 0)) (.int 0)) (g1 : n0 ≤ a1) (gv : n0 ≤ v1) (nv1 : @Ne Nat v1 a1) (nv2 : @Ne Nat v1 a2) (nv3 : @Ne Nat v1 t2) (na2 : @Ne Nat a1 a2) (na3 : @Ne Nat a1 t2) :
  MF l mN28 jdk_67_method_7_code 2 (some (.object "java/lang/StringBuilder")) ws (Rm 4 0 0 140) Z #[(.ref a1), (.ref a2)] h0 (Q_rmSaL Z a1 a2 cs cs0 t2 k2 v1 kv h0 n0) := by
 refine MetFree.of_bodySF (plainFor_of_name pn_6) hisR ?_
 intro p e s m args below meth c s₁ Bd hml0 hP hK
 obtain ⟨rfl, hZ, hh⟩ := hP
 have hx := Bd.exec
 have hby := Bd.bytes
 have hml : c.maxLocals = 2 := hml0
 have hown : s.vm.findClass "java/lang/StringBuilder" = some m.cls := findClass_of_methodNamed Bd.named
 have X0 : Stand p l e (Rm 4 0 0 140) s m #[(.ref a1), (.ref a2)] below meth c s₁ [] 0 0 := Stand.of_body Bd
 have e0 : s₁.heap = h0 := by rw [← hh, Bd.state]; rfl
 have N0 := Fr.nil n0
 have hn0 : n0 ≤ h0.size := O0.1 ▸ O0.2.1
 have pre0 : ∀ t, SS p e below s₁ m 0 #[vR a1, vR a2] [] t → SE p e below s₁ m #[(.ref a1), (.ref a2)] 2 t := fun t k => castTop (ef_rmSaL m a1 a2) k
 have lt_a1 : @LT.lt Nat _ a1 h0.size := Eb.lt
 have lt_v1 : @LT.lt Nat _ v1 h0.size := Vb.lt
 have lt_a2 : @LT.lt Nat _ a2 h0.size := E2.lt
 have lt_t2 : @LT.lt Nat _ t2 h0.size := V2.lt
 obtain ⟨_, _, ⟨T101, L101, k101, n101⟩, -, X101, ⟨Lc101, hQ101, l101, y101, z101⟩, st101⟩ := superBack X0 hx hZ hown (tw hw 72 rfl) (own_same (tw hw 63 rfl) (own_nface (a0 := a0) (y := mN27) (tw hw 80 rfl) rfl) (by decide)) (tw hw 63 rfl) (tw hw 73 rfl) (by decide) (backOf (W := 0) (rmApL l Z a0 hw [] a1 a2 cs cs0 t2 k2 v1 kv h0 n0 O0 S_CS c_CS E2 Fv2 Fc2 V2 hn Eb Bv Bc Bn Bm Vb (by omega : @LE.le Nat _ n0 a1) (by omega : @LE.le Nat _ n0 v1) (by omega) (by omega) (by omega) (by omega) (by omega)) hZ (tw hw 74 rfl) (tw hw 41 rfl) (by decide) (by decide)) e0 (Ins.self Eb) (g := (mkF m 2 #[vR a1, vR a2] [(.ref a2), (.ref a1)])) rfl (by rw [hml]; rfl) (tw hw 74 rfl) (a := a1) (argsL := [(.ref a2)]) (rest := []) (lenOf pd_8 rfl) rfl (wL _) (hb hby d11_2) (fun _ _ => ⟨rfl, e0, (by decide : 0 + 0 ≤ _), (by decide : 0 + 0 ≤ _)⟩)
 dsimp only [Pt.U, Pt.locs, Pt.cells, Pt.slots] at X101 l101 y101 z101 st101 hQ101
 subst l101 y101 z101
 obtain ⟨rfl, N101q, K101, Eb101, Bv101, Bc101, Bn101, Bm101, Vb101⟩ := hQ101
 have sz1_K101 := K101.1
 have N101 := Fr.app N0 N101q
 have KC102 : Keep h0 T101.heap [a1, v1] := (Keep.refl h0 [a1, v1]).trans K101 (allS (Or.inl (List.mem_of_getElem? (i := 0) rfl)) (allS (Or.inl (List.mem_of_getElem? (i := 1) rfl)) (all0)))
 obtain ⟨fs, hr, hrun, hended, hW, hsame⟩ := X101.leave (v := some (.ref a1)) (nvr Bd.returns)
 refine ⟨_, _, pre0 _ ?_, hrun, hended, _, _, rfl, ?_, ⟨_, rfl⟩, hW, hsame.mono (by decide) (by decide)⟩
 ·skip
  show SS p e below s₁ m 0 #[vR a1, vR a2] [] _
  refine XS.aloadN X0.here hx rfl (hb hby d11_0) rfl rfl ?_
  refine XS.aloadN X0.here hx rfl (hb hby d11_1) rfl rfl ?_
  show SS p e below s₁ m 2 #[vR a1, vR a2] [(.ref a2), (.ref a1)] _
  refine st101.trans ?_
  refine XS.pop X101.here hx rfl (hb hby d11_5) rfl rfl ?_
  refine XS.aloadN X101.here hx rfl (hb hby d11_6) rfl rfl ?_
  show SS p e below T101 m 7 #[vR a1, vR a2] [(.ref a1)] _
  exact X101.areturnOut hx rfl Bd.returns rfl (hb hby d11_7) hr
 ·show Q_rmSaL Z a1 a2 cs cs0 t2 k2 v1 kv h0 n0 _ T101.heap _
  exact ⟨rfl, N101, KC102, Eb101, Bv101, Bc101, Bn101, Bm101, Vb101⟩
theorem d10_0 : DK cD29 0 (.aload_n 0) 1 := by decide +kernel
theorem d10_1 : DK cD29 1 (.aload_n 1) 1 := by decide +kernel
theorem d10_2 : DK cD29 2 (.invokevirtual 23) 3 := by decide +kernel
theorem d10_5 : DK cD29 5 (.areturn) 1 := by decide +kernel
theorem pd_9 : parseMethodDescriptor "(Ljava/lang/String;)Ljava/lang/StringBuilder;" = some ⟨[(.object "java/lang/String")], some (.object "java/lang/StringBuilder")⟩ := by decide +kernel
theorem ef_rmSabL (m : MethodId) (y0 : Addr) (y1 : Addr) : entryFrame m #[(.ref y0), (.ref y1)] 2 = (mkF m 0 #[vR y0, vR y1] []) := by first | (simp [entryFrame, mkF, argsToLocals, Value.category]; done) | rfl
def Q_rmSabL (Z : State) (a1 : Addr) (a2 : Addr) (cs : List Int32) (cs0 : Int32) (t2 : Addr) (k2 : ClassId) (v1 : Addr) (kv : ClassId) (h0 : Heap) (n0 : Nat) (v : Option Value) (h : Heap) (L : List Loc) : Prop := v = some (.ref a1) ∧ Fr n0 L ∧ Keep h0 h [a1, v1] ∧ Exa Z h a1 "java/lang/StringBuilder" ∧ Fld Z h a1 "java/lang/AbstractStringBuilder" "value" "[B" (.ref v1) ∧ Fld Z h a1 "java/lang/AbstractStringBuilder" "coder" "B" (.int 0) ∧ Fld Z h a1 "java/lang/AbstractStringBuilder" "count" "I" (.int (oN (lat cs).length)) ∧ Fld Z h a1 "java/lang/AbstractStringBuilder" "maybeLatin1" "Z" (.int 0) ∧ Arv Z h v1 kv .byte (oN ((lat cs).length + 16)) ((lat cs).map Value.int) (.int 0)
theorem rmSabL (l : Launch) (Z : State) (a0 : Array Value) (hw : HW a0 Z) (ws : List Jvm.Cond) (a1 : Addr) (a2 : Addr) (cs : List Int32) (cs0 : Int32) (t2 : Addr) (k2 : ClassId) (v1 : Addr) (kv : ClassId) (h0 : Heap) (n0 : Nat) (O0 : Old Z n0 h0) (S_CS : SCS Z cs0) (c_CS : ¬ (cs0 = (0 : Int32))) (E2 : Exa Z h0 a2 "java/lang/String") (Fv2 : Fld Z h0 a2 "java/lang/String" "value" "[B" (.ref t2)) (Fc2 : Fld Z h0 a2 "java/lang/String" "coder" "B" (.int 0)) (V2 : Arv Z h0 t2 k2 .byte (oN (lat cs).length) ((lat cs).map Value.int) (.int 0)) (hn : (lat cs).length ≤ 4) (Eb : Exa Z h0 a1 "java/lang/StringBuilder") (Bv : Fld Z h0 a1 "java/lang/AbstractStringBuilder" "value" "[B" (.ref v1)) (Bc : Fld Z h0 a1 "java/lang/AbstractStringBuilder" "coder" "B" (.int 0)) (Bn : Fld Z h0 a1 "java/lang/AbstractStringBuilder" "count" "I" (.int 0)) (Bm : Fld Z h0 a1 "java/lang/AbstractStringBuilder" "maybeLatin1" "Z" (.int 0)) (Vb : Arv Z h0 v1 kv .byte (oN ((lat cs).length + 16)) (List.replicate ((lat cs).length + 16) (.int 0)) (.int 0)) (g1 : n0 ≤ a1) (gv : n0 ≤ v1) (nv1 : @Ne Nat v1 a1) (nv2 : @Ne Nat v1 a2) (nv3 : @Ne Nat v1 t2) (na2 : @Ne Nat a1 a2) (na3 : @Ne Nat a1 t2) :
  MF l mN29 jdk_67_method_80_code 2 (some (.object "java/lang/AbstractStringBuilder")) ws (Rm 5 0 0 160) Z #[(.ref a1), (.ref a2)] h0 (Q_rmSabL Z a1 a2 cs cs0 t2 k2 v1 kv h0 n0) := by
 refine MetFree.of_bodySF (plainFor_of_name pn_6) hisR ?_
 intro p e s m args below meth c s₁ Bd hml0 hP hK
 obtain ⟨rfl, hZ, hh⟩ := hP
 have hx := Bd.exec
 have hby := Bd.bytes
 have hml : c.maxLocals = 2 := hml0
 have hown : s.vm.findClass "java/lang/StringBuilder" = some m.cls := findClass_of_methodNamed Bd.named
 have X0 : Stand p l e (Rm 5 0 0 160) s m #[(.ref a1), (.ref a2)] below meth c s₁ [] 0 0 := Stand.of_body Bd
 have e0 : s₁.heap = h0 := by rw [← hh, Bd.state]; rfl
 have N0 := Fr.nil n0
 have hn0 : n0 ≤ h0.size := O0.1 ▸ O0.2.1
 have pre0 : ∀ t, SS p e below s₁ m 0 #[vR a1, vR a2] [] t → SE p e below s₁ m #[(.ref a1), (.ref a2)] 2 t := fun t k => castTop (ef_rmSabL m a1 a2) k
 have lt_a1 : @LT.lt Nat _ a1 h0.size := Eb.lt
 have lt_v1 : @LT.lt Nat _ v1 h0.size := Vb.lt
 have lt_a2 : @LT.lt Nat _ a2 h0.size := E2.lt
 have lt_t2 : @LT.lt Nat _ t2 h0.size := V2.lt
 obtain ⟨cq101, kq101, q101a, q101b, q101c⟩ := isOf hZ e0 Eb
 obtain ⟨_, _, ⟨T101, L101, k101, n101⟩, -, X101, ⟨Lc101, hQ101, l101, y101, z101⟩, st101⟩ := X0.virtualBack hx (y := mN28) (z := mN28) hown (mvT hZ (tw hw 67 rfl)) (mvT hZ (tw hw 68 rfl)) (notFace_of_selects (args := #[]) (mvT hZ (tw hw 70 rfl))) (mvT hZ (tw hw 70 rfl)) (mvT hZ (tw hw 69 rfl)) (by decide) (backOf (W := 0) (rmSaL l Z a0 hw [] a1 a2 cs cs0 t2 k2 v1 kv h0 n0 O0 S_CS c_CS E2 Fv2 Fc2 V2 hn Eb Bv Bc Bn Bm Vb (by omega : @LE.le Nat _ n0 a1) (by omega : @LE.le Nat _ n0 v1) (by omega) (by omega) (by omega) (by omega) (by omega)) hZ (tw hw 71 rfl) (tw hw 33 rfl) (by decide) (by decide)) q101a q101c (g := (mkF m 2 #[vR a1, vR a2] [(.ref a2), (.ref a1)])) rfl (by rw [hml]; rfl) (Steps.refl _) (argsL := [(.ref a2)]) (rest := []) (lenOf pd_9 rfl) rfl (wL _) (hb hby d10_2) (fun _ _ => ⟨rfl, e0, (by decide : 0 + 0 ≤ _), (by decide : 0 + 0 ≤ _)⟩)
 dsimp only [Pt.U, Pt.locs, Pt.cells, Pt.slots] at X101 l101 y101 z101 st101 hQ101
 subst l101 y101 z101
 obtain ⟨rfl, N101q, K101, Eb101, Bv101, Bc101, Bn101, Bm101, Vb101⟩ := hQ101
 have sz1_K101 := K101.1
 have N101 := Fr.app N0 N101q
 have KC102 : Keep h0 T101.heap [a1, v1] := (Keep.refl h0 [a1, v1]).trans K101 (allS (Or.inl (List.mem_of_getElem? (i := 0) rfl)) (allS (Or.inl (List.mem_of_getElem? (i := 1) rfl)) (all0)))
 obtain ⟨fs, hr, hrun, hended, hW, hsame⟩ := X101.leave (v := some (.ref a1)) (nvr Bd.returns)
 refine ⟨_, _, pre0 _ ?_, hrun, hended, _, _, rfl, ?_, ⟨_, rfl⟩, hW, hsame.mono (by decide) (by decide)⟩
 ·skip
  show SS p e below s₁ m 0 #[vR a1, vR a2] [] _
  refine XS.aloadN X0.here hx rfl (hb hby d10_0) rfl rfl ?_
  refine XS.aloadN X0.here hx rfl (hb hby d10_1) rfl rfl ?_
  show SS p e below s₁ m 2 #[vR a1, vR a2] [(.ref a2), (.ref a1)] _
  refine st101.trans ?_
  show SS p e below T101 m 5 #[vR a1, vR a2] [(.ref a1)] _
  exact X101.areturnOut hx rfl Bd.returns rfl (hb hby d10_5) hr
 ·show Q_rmSabL Z a1 a2 cs cs0 t2 k2 v1 kv h0 n0 _ T101.heap _
  exact ⟨rfl, N101, KC102, Eb101, Bv101, Bc101, Bn101, Bm101, Vb101⟩
theorem d7_0 : DK cD30 0 (.aload_n 0) 1 := by decide +kernel
theorem d7_1 : DK cD30 1 (.invokespecial 3) 3 := by decide +kernel
theorem d7_4 : DK cD30 4 (.aload_n 1) 1 := by decide +kernel
theorem d7_5 : DK cD30 5 (.invokevirtual 32) 3 := by decide +kernel
theorem d7_8 : DK cD30 8 (.istore_n 2) 1 := by decide +kernel
theorem d7_9 : DK cD30 9 (.iload_n 2) 1 := by decide +kernel
theorem d7_10 : DK cD30 10 (.ldc 38) 2 := by decide +kernel
theorem d7_12 : DK cD30 12 (.if_icmp .ge 10) 3 := by decide +kernel
theorem d7_15 : DK cD30 15 (.iload_n 2) 1 := by decide +kernel
theorem d7_16 : DK cD30 16 (.bipush 16) 2 := by decide +kernel
theorem d7_18 : DK cD30 18 (.iadd) 1 := by decide +kernel
theorem d7_19 : DK cD30 19 (.goto 5) 3 := by decide +kernel
theorem d7_24 : DK cD30 24 (.istore_n 3) 1 := by decide +kernel
theorem d7_25 : DK cD30 25 (.aload_n 1) 1 := by decide +kernel
theorem d7_26 : DK cD30 26 (.invokevirtual 40) 3 := by decide +kernel
theorem d7_29 : DK cD30 29 (.istore 4) 2 := by decide +kernel
theorem d7_31 : DK cD30 31 (.aload_n 0) 1 := by decide +kernel
theorem d7_32 : DK cD30 32 (.iload 4) 2 := by decide +kernel
theorem d7_34 : DK cD30 34 (.putfield 22) 3 := by decide +kernel
theorem d7_37 : DK cD30 37 (.aload_n 0) 1 := by decide +kernel
theorem d7_38 : DK cD30 38 (.iload 4) 2 := by decide +kernel
theorem d7_40 : DK cD30 40 (.ifCond .ne 9) 3 := by decide +kernel
theorem d7_43 : DK cD30 43 (.iload_n 3) 1 := by decide +kernel
theorem d7_44 : DK cD30 44 (.newarray .byte) 2 := by decide +kernel
theorem d7_46 : DK cD30 46 (.goto 7) 3 := by decide +kernel
theorem d7_53 : DK cD30 53 (.putfield 15) 3 := by decide +kernel
theorem d7_56 : DK cD30 56 (.aload_n 0) 1 := by decide +kernel
theorem d7_57 : DK cD30 57 (.aload_n 1) 1 := by decide +kernel
theorem d7_58 : DK cD30 58 (.invokevirtual 43) 3 := by decide +kernel
theorem d7_61 : DK cD30 61 (.pop) 1 := by decide +kernel
theorem d7_62 : DK cD30 62 (.return_) 1 := by decide +kernel
theorem ef_rmIiL (m : MethodId) (y0 : Addr) (y1 : Addr) : entryFrame m #[(.ref y0), (.ref y1)] 5 = (mkF m 0 #[vR y0, vR y1, .unset, .unset, .unset] []) := by first | (simp [entryFrame, mkF, argsToLocals, Value.category]; done) | rfl
def Q_rmIiL (Z : State) (a1 : Addr) (a2 : Addr) (cs : List Int32) (cs0 : Int32) (t2 : Addr) (k2 : ClassId) (h0 : Heap) (n0 : Nat) (v : Option Value) (h : Heap) (L : List Loc) : Prop := ∃ (v1 : Addr) (kv : ClassId), v = none ∧ Fr n0 L ∧ Keep h0 h [a1] ∧ h0.size ≤ v1 ∧ Exa Z h a1 "java/lang/StringBuilder" ∧ Fld Z h a1 "java/lang/AbstractStringBuilder" "value" "[B" (.ref v1) ∧ Fld Z h a1 "java/lang/AbstractStringBuilder" "coder" "B" (.int 0) ∧ Fld Z h a1 "java/lang/AbstractStringBuilder" "count" "I" (.int (oN (lat cs).length)) ∧ Fld Z h a1 "java/lang/AbstractStringBuilder" "maybeLatin1" "Z" (.int 0) ∧ Arv Z h v1 kv .byte (oN ((lat cs).length + 16)) ((lat cs).map Value.int) (.int 0)
theorem rmIiL (l : Launch) (Z : State) (a0 : Array Value) (hw : HW a0 Z) (ws : List Jvm.Cond) (a1 : Addr) (a2 : Addr) (cs : List Int32) (cs0 : Int32) (t2 : Addr) (k2 : ClassId) (h0 : Heap) (n0 : Nat) (O0 : Old Z n0 h0) (S_CS : SCS Z cs0) (c_CS : ¬ (cs0 = (0 : Int32))) (E2 : Exa Z h0 a2 "java/lang/String") (Fv2 : Fld Z h0 a2 "java/lang/String" "value" "[B" (.ref t2)) (Fc2 : Fld Z h0 a2 "java/lang/String" "coder" "B" (.int 0)) (V2 : Arv Z h0 t2 k2 .byte (oN (lat cs).length) ((lat cs).map Value.int) (.int 0)) (hn : (lat cs).length ≤ 4) (g1 : n0 ≤ a1) (na2 : @Ne Nat a1 a2) (na3 : @Ne Nat a1 t2) (Eb : Exa Z h0 a1 "java/lang/StringBuilder") (Bv : Fld Z h0 a1 "java/lang/AbstractStringBuilder" "value" "[B" .null) (Bc : Fld Z h0 a1 "java/lang/AbstractStringBuilder" "coder" "B" (.int 0)) (Bn : Fld Z h0 a1 "java/lang/AbstractStringBuilder" "count" "I" (.int 0)) (Bm : Fld Z h0 a1 "java/lang/AbstractStringBuilder" "maybeLatin1" "Z" (.int 0)) :
  MF l mN30 jdk_68_method_3_code 5 none ws (Rm 6 1 40 190) Z #[(.ref a1), (.ref a2)] h0 (Q_rmIiL Z a1 a2 cs cs0 t2 k2 h0 n0) := by
 refine MetFree.of_bodySF (plainFor_of_name pn_7) hisR ?_
 intro p e s m args below meth c s₁ Bd hml0 hP hK
 obtain ⟨rfl, hZ, hh⟩ := hP
 have hx := Bd.exec
 have hby := Bd.bytes
 have hml : c.maxLocals = 5 := hml0
 have hown : s.vm.findClass "java/lang/AbstractStringBuilder" = some m.cls := findClass_of_methodNamed Bd.named
 have X0 : Stand p l e (Rm 6 1 40 190) s m #[(.ref a1), (.ref a2)] below meth c s₁ [] 0 0 := Stand.of_body Bd
 have e0 : s₁.heap = h0 := by rw [← hh, Bd.state]; rfl
 have N0 := Fr.nil n0
 have hn0 : n0 ≤ h0.size := O0.1 ▸ O0.2.1
 have pre0 : ∀ t, SS p e below s₁ m 0 #[vR a1, vR a2, .unset, .unset, .unset] [] t → SE p e below s₁ m #[(.ref a1), (.ref a2)] 5 t := fun t k => castTop (ef_rmIiL m a1 a2) k
 have lt_a1 : @LT.lt Nat _ a1 h0.size := Eb.lt
 have lt_a2 : @LT.lt Nat _ a2 h0.size := E2.lt
 have lt_t2 : @LT.lt Nat _ t2 h0.size := V2.lt
 obtain ⟨T101, X101, e101, st101⟩ := initO X0 hx hZ hown (tw hw 43 rfl) (tw hw 17 rfl) (tw hw 18 rfl) e0 (g := (mkF m 1 #[vR a1, vR a2, .unset, .unset, .unset] [(.ref a1)])) rfl (by rw [hml]; rfl) rfl (hb hby d7_1) (by decide) (W := 0) (wL _) (by decide)
 obtain ⟨cq102, kq102, q102a, q102b, q102c⟩ := isOf hZ e101 E2
 obtain ⟨_, _, ⟨T102, L102, k102, n102⟩, -, X102, ⟨Lc102, hQ102, l102, y102, z102⟩, st102⟩ := X101.virtualBack hx (y := mN12) (z := mN12) hown (mvT hZ (tw hw 44 rfl)) (mvT hZ (tw hw 45 rfl)) (notFace_of_selects (args := #[]) (mvT hZ (tw hw 47 rfl))) (mvT hZ (tw hw 47 rfl)) (mvT hZ (tw hw 46 rfl)) (by decide) (backOf (W := 0) (rmLenL l Z a0 hw [] a2 (lat cs) t2 k2 cs0 h0 n0 O0 S_CS c_CS E2 Fv2 Fc2 V2 hn) hZ (tw hw 48 rfl) (tw hw 8 rfl) (by decide) (by decide)) q102a q102c (g := (mkF m 5 #[vR a1, vR a2, .unset, .unset, .unset] [(.ref a2)])) rfl (by rw [hml]; rfl) (Steps.refl _) (argsL := []) (rest := []) (lenOf pd_6 rfl) rfl (wL _) (hb hby d7_5) (fun _ _ => ⟨rfl, e101, (by decide : 0 + 0 ≤ _), (by decide : 0 + 0 ≤ _)⟩)
 dsimp only [Pt.U, Pt.locs, Pt.cells, Pt.slots] at X102 l102 y102 z102 st102 hQ102
 subst l102 y102 z102
 obtain ⟨rfl, N102q, H102⟩ := hQ102
 have N102 := Fr.app N0 N102q
 have hr103 : ((oN (lat cs).length) + (16 : Int32)) = (oN ((lat cs).length + 16)) := own_add _ 16
 obtain ⟨cq104, kq104, q104a, q104b, q104c⟩ := isOf hZ H102 E2
 obtain ⟨_, _, ⟨T104, L104, k104, n104⟩, -, X104, ⟨Lc104, hQ104, l104, y104, z104⟩, st104⟩ := X102.virtualBack hx (y := mN10) (z := mN10) hown (mvT hZ (tw hw 56 rfl)) (mvT hZ (tw hw 50 rfl)) (notFace_of_selects (args := #[]) (mvT hZ (tw hw 52 rfl))) (mvT hZ (tw hw 52 rfl)) (mvT hZ (tw hw 51 rfl)) (by decide) (backOf (W := 0) (rmCoderL l Z a0 hw [] a2 (lat cs) t2 k2 cs0 h0 n0 O0 S_CS c_CS E2 Fv2 Fc2 V2 hn) hZ (tw hw 53 rfl) (tw hw 8 rfl) (by decide) (by decide)) q104a q104c (g := (mkF m 26 #[vR a1, vR a2, vI (oN (lat cs).length), vI (oN ((lat cs).length + 16)), .unset] [(.ref a2)])) rfl (by rw [hml]; rfl) (Steps.refl _) (argsL := []) (rest := []) (lenOf pd_7 rfl) rfl (wL _) (hb hby d7_26) (fun _ _ => ⟨rfl, H102, (by decide : 0 + 0 ≤ _), (by decide : 0 + 0 ≤ _)⟩)
 dsimp only [Pt.U, Pt.locs, Pt.cells, Pt.slots] at X104 l104 y104 z104 st104 hQ104
 subst l104 y104 z104
 obtain ⟨rfl, N104q, H104⟩ := hQ104
 have N104 := Fr.app N102 N104q
 obtain ⟨T105, h105, X105, e105, W105, st105⟩ := putFN X104 hx hZ hown (tw hw 57 rfl) Via.refl H104 Bc Eb (Or.inl (tw hw 58 rfl)) (tw hw 32 rfl) (ty := .byte) (v' := (.int 0)) (by decide) rfl rfl (g := (mkF m 34 #[vR a1, vR a2, vI (oN (lat cs).length), vI (oN ((lat cs).length + 16)), vI 0] [(.int 0), (.ref a1)])) rfl rfl (hb hby d7_34)
 have K105 := Keep.of_wr W105
 have Fw105 := Fld.same W105 Bc
 have N105 := Fr.snoc X105 N104 (by omega : @LE.le Nat _ n0 a1)
 have sz1_K105 := K105.1
 obtain ⟨T106, h106, k106, X106, e106, E106, A106, st106⟩ := newP X105 hx hZ (tw hw 20 rfl) e105 (g := (mkF m 44 #[vR a1, vR a2, vI (oN (lat cs).length), vI (oN ((lat cs).length + 16)), vI 0] [(.int (oN ((lat cs).length + 16))), (.ref a1)])) rfl (hb hby d7_44) rfl (own_nn (by omega)) (cap := 20) (by rw [own_nat (by omega)]; omega) (by decide) (by decide) (by decide)
 obtain ⟨b106, g106⟩ : ∃ z, z = h105.size := ⟨_, rfl⟩
 rw [← g106] at A106 st106
 have V106 : Arv Z h106 b106 k106 .byte (oN ((lat cs).length + 16)) (List.replicate ((lat cs).length + 16) (.int 0)) (.int 0) := (Arv.new A106 (own_nn (by omega))).pad (pad_rep [] (.int 0) ((lat cs).length + 16))
 have lt106 : @LT.lt Nat _ b106 h106.size := V106.lt
 have K106 : Keep h105 h106 [] := (Keep.refl _ _).ext E106
 have sz2_K106 := K106.1
 have KD107 : Keep h0 h106 [a1] := ((Keep.refl _ _).trans K105 (allS (Or.inl (List.mem_of_getElem? (i := 0) rfl)) (all0))).trans K106 (all0)
 have C108 := Eb.keep KD107
 have C109 := Fld.other W105 Bv (Or.inr (slot_ne (Or.inl (tw hw 60 rfl)) (Or.inl (tw hw 58 rfl)) (by decide) (t := (.array .byte)) (t' := .byte) (by decide) (by decide)))
 have C110 := C109.keep K106 nin0
 obtain ⟨T111, h111, X111, e111, W111, st111⟩ := putF X106 hx hZ hown (host := "") (Or.inl (tw hw 59 rfl)) Via.refl e106 C110 C108 (Or.inl (tw hw 60 rfl)) (tw hw 32 rfl) (ty := (.array .byte)) (by decide) rfl rfl (g := (mkF m 53 #[vR a1, vR a2, vI (oN (lat cs).length), vI (oN ((lat cs).length + 16)), vI 0] [(.ref b106), (.ref a1)])) rfl rfl (hb hby d7_53)
 have K111 := Keep.of_wr W111
 have Fw111 := Fld.same W111 C110
 have N111 := Fr.snoc X111 N105 (by omega : @LE.le Nat _ n0 a1)
 have sz3_K111 := K111.1
 have KD113 : Keep h0 h111 [a1] := ((Keep.refl _ _).trans KD107 (allS (Or.inl (List.mem_of_getElem? (i := 0) rfl)) (all0))).trans K111 (allS (Or.inl (List.mem_of_getElem? (i := 0) rfl)) (all0))
 have C114 := E2.keep KD113
 have C115 := Fv2.keep KD113 (ninS (by omega : @Ne Nat a2 a1) (nin0))
 have C116 := Fc2.keep KD113 (ninS (by omega : @Ne Nat a2 a1) (nin0))
 have C117 := V2.keep KD113 (ninS (by omega : @Ne Nat t2 a1) (nin0))
 have C118 := C108.keep K111
 have C119 := Fw105.keep K106 nin0
 have C120 := Fld.other W111 C119 (Or.inr (slot_ne (Or.inl (tw hw 58 rfl)) (Or.inl (tw hw 60 rfl)) (by decide) (t := .byte) (t' := (.array .byte)) (by decide) (by decide)))
 have C121 := Fld.other W105 Bn (Or.inr (slot_ne (Or.inl (tw hw 76 rfl)) (Or.inl (tw hw 58 rfl)) (by decide) (t := .int) (t' := .byte) (by decide) (by decide)))
 have C122 := C121.keep K106 nin0
 have C123 := Fld.other W111 C122 (Or.inr (slot_ne (Or.inl (tw hw 76 rfl)) (Or.inl (tw hw 60 rfl)) (by decide) (t := .int) (t' := (.array .byte)) (by decide) (by decide)))
 have C124 := Fld.other W105 Bm (Or.inr (slot_ne (Or.inl (tw hw 242 rfl)) (Or.inl (tw hw 58 rfl)) (by decide) (t := .boolean) (t' := .byte) (by decide) (by decide)))
 have C125 := C124.keep K106 nin0
 have C126 := Fld.other W111 C125 (Or.inr (slot_ne (Or.inl (tw hw 242 rfl)) (Or.inl (tw hw 60 rfl)) (by decide) (t := .boolean) (t' := (.array .byte)) (by decide) (by decide)))
 have C127 := V106.keep K111 (ninS (by omega : @Ne Nat b106 a1) (nin0))
 have O128 : Old Z n0 h105 := O0.keep K105 (allS (by omega) (all0))
 have O129 : Old Z n0 h106 := O128.keep K106 all0
 have O130 : Old Z n0 h111 := O129.keep K111 (allS (by omega) (all0))
 obtain ⟨cq112, kq112, q112a, q112b, q112c⟩ := isOf hZ e111 C118
 obtain ⟨_, _, ⟨T112, L112, k112, n112⟩, -, X112, ⟨Lc112, hQ112, l112, y112, z112⟩, st112⟩ := X111.virtualBack hx (y := mN27) (z := mN29) hown (mvT hZ (tw hw 61 rfl)) (mvT hZ (tw hw 62 rfl)) (own_nface (a0 := #[]) (y := mN27) (mvT hZ (tw hw 80 rfl)) rfl) (mvT hZ (tw hw 64 rfl)) (mvT hZ (tw hw 65 rfl)) (by decide) (backOf (W := 0) (rmSabL l Z a0 hw [] a1 a2 cs cs0 t2 k2 b106 k106 h111 n0 O130 S_CS c_CS C114 C115 C116 C117 hn C118 Fw111 C120 C123 C126 C127 (by omega : @LE.le Nat _ n0 a1) (by omega : @LE.le Nat _ n0 b106) (by omega) (by omega) (by omega) (by omega) (by omega)) hZ (tw hw 66 rfl) (tw hw 33 rfl) (by decide) (by decide)) q112a q112c (g := (mkF m 58 #[vR a1, vR a2, vI (oN (lat cs).length), vI (oN ((lat cs).length + 16)), vI 0] [(.ref a2), (.ref a1)])) rfl (by rw [hml]; rfl) (Steps.refl _) (argsL := [(.ref a2)]) (rest := []) (lenOf pd_8 rfl) rfl (wL _) (hb hby d7_58) (fun _ _ => ⟨rfl, e111, (by decide : 1 + 0 ≤ _), (by decide : 20 + 0 ≤ _)⟩)
 dsimp only [Pt.U, Pt.locs, Pt.cells, Pt.slots] at X112 l112 y112 z112 st112 hQ112
 subst l112 y112 z112
 obtain ⟨rfl, N112q, K112, Eb112, Bv112, Bc112, Bn112, Bm112, Vb112⟩ := hQ112
 have sz4_K112 := K112.1
 have N112 := Fr.app N111 N112q
 have KC131 : Keep h0 h105 [a1] := (Keep.refl h0 [a1]).trans K105 (allS (Or.inl (List.mem_of_getElem? (i := 0) rfl)) (all0))
 have KC132 : Keep h0 h106 [a1] := KC131.trans K106 (all0)
 have KC133 : Keep h0 h111 [a1] := KC132.trans K111 (allS (Or.inl (List.mem_of_getElem? (i := 0) rfl)) (all0))
 have KC134 : Keep h0 T112.heap [a1] := KC133.trans K112 (allS (Or.inl (List.mem_of_getElem? (i := 0) rfl)) (allS (Or.inr (by omega)) (all0)))
 obtain ⟨fs, hr, hrun, hended, hW, hsame⟩ := X112.leave (v := none) (fun _ => rfl)
 refine ⟨_, _, pre0 _ ?_, hrun, hended, _, _, rfl, ?_, ⟨_, rfl⟩, hW, hsame.mono (by decide) (by decide)⟩
 ·skip
  show SS p e below s₁ m 0 #[vR a1, vR a2, .unset, .unset, .unset] [] _
  refine XS.aloadN X0.here hx rfl (hb hby d7_0) rfl rfl ?_
  show SS p e below s₁ m 1 #[vR a1, vR a2, .unset, .unset, .unset] [(.ref a1)] _
  refine st101 _ ?_
  refine XS.aloadN X101.here hx rfl (hb hby d7_4) rfl rfl ?_
  show SS p e below T101 m 5 #[vR a1, vR a2, .unset, .unset, .unset] [(.ref a2)] _
  refine st102.trans ?_
  refine XS.istoreN X102.here hx rfl (hb hby d7_8) rfl (l' := #[vR a1, vR a2, vI (oN (lat cs).length), .unset, .unset]) rfl ?_
  refine XS.iloadN X102.here hx rfl (hb hby d7_9) rfl ?_
  show SS p e below T102 m 10 #[vR a1, vR a2, vI (oN (lat cs).length), .unset, .unset] [(.int (oN (lat cs).length))] _
  refine X102.ldcInt hx hown (mvT hZ (tw hw 55 rfl)) (g := (mkF m 10 #[vR a1, vR a2, vI (oN (lat cs).length), .unset, .unset] [(.int (oN (lat cs).length))])) rfl (hb hby d7_10) _ ?_
  refine XS.icmpNo X102.here hx rfl (hb hby d7_12) rfl (tlt ((own_lt (j := 2147483631) (by omega) (by decide)).mpr (by omega) : (oN (lat cs).length) < (2147483631 : Int32))).2.1 ?_
  refine XS.iloadN X102.here hx rfl (hb hby d7_15) rfl ?_
  refine XS.bipush X102.here hx rfl (hb hby d7_16) ?_
  refine XS.iadd X102.here hx rfl (hb hby d7_18) rfl ?_
  show SS p e below T102 m 19 #[vR a1, vR a2, vI (oN (lat cs).length), .unset, .unset] [(.int ((oN (lat cs).length) + (16 : Int32)))] _
  rw [hr103]
  refine XS.goto X102.here hx rfl (pc0 := 19) (pc' := 24) rfl (hb hby d7_19) (by decide) (by decide) ?_
  refine XS.istoreN X102.here hx rfl (hb hby d7_24) rfl (l' := #[vR a1, vR a2, vI (oN (lat cs).length), vI (oN ((lat cs).length + 16)), .unset]) rfl ?_
  refine XS.aloadN X102.here hx rfl (hb hby d7_25) rfl rfl ?_
  show SS p e below T102 m 26 #[vR a1, vR a2, vI (oN (lat cs).length), vI (oN ((lat cs).length + 16)), .unset] [(.ref a2)] _
  refine st104.trans ?_
  refine XS.istore X104.here hx rfl (hb hby d7_29) rfl (l' := #[vR a1, vR a2, vI (oN (lat cs).length), vI (oN ((lat cs).length + 16)), vI 0]) rfl ?_
  refine XS.aloadN X104.here hx rfl (hb hby d7_31) rfl rfl ?_
  refine XS.iload X104.here hx rfl (hb hby d7_32) rfl ?_
  show SS p e below T104 m 34 #[vR a1, vR a2, vI (oN (lat cs).length), vI (oN ((lat cs).length + 16)), vI 0] [(.int 0), (.ref a1)] _
  refine st105 _ ?_
  refine XS.aloadN X105.here hx rfl (hb hby d7_37) rfl rfl ?_
  refine XS.iload X105.here hx rfl (hb hby d7_38) rfl ?_
  refine XS.ifNo X105.here hx rfl (hb hby d7_40) rfl ((if0 _ _).trans (teq (by decide : (0 : Int32) = (0 : Int32))).2) ?_
  refine XS.iloadN X105.here hx rfl (hb hby d7_43) rfl ?_
  show SS p e below T105 m 44 #[vR a1, vR a2, vI (oN (lat cs).length), vI (oN ((lat cs).length + 16)), vI 0] [(.int (oN ((lat cs).length + 16))), (.ref a1)] _
  refine st106 _ ?_
  refine XS.goto X106.here hx rfl (pc0 := 46) (pc' := 53) rfl (hb hby d7_46) (by decide) (by decide) ?_
  show SS p e below T106 m 53 #[vR a1, vR a2, vI (oN (lat cs).length), vI (oN ((lat cs).length + 16)), vI 0] [(.ref b106), (.ref a1)] _
  refine st111 _ ?_
  refine XS.aloadN X111.here hx rfl (hb hby d7_56) rfl rfl ?_
  refine XS.aloadN X111.here hx rfl (hb hby d7_57) rfl rfl ?_
  show SS p e below T111 m 58 #[vR a1, vR a2, vI (oN (lat cs).length), vI (oN ((lat cs).length + 16)), vI 0] [(.ref a2), (.ref a1)] _
  refine st112.trans ?_
  refine XS.pop X112.here hx rfl (hb hby d7_61) rfl rfl ?_
  show SS p e below T112 m 62 #[vR a1, vR a2, vI (oN (lat cs).length), vI (oN ((lat cs).length + 16)), vI 0] [] _
  exact X112.returnOut hx Bd.returns (hb hby d7_62) hr
 ·show Q_rmIiL Z a1 a2 cs cs0 t2 k2 h0 n0 _ T112.heap _
  exact ⟨_, _, rfl, N112, KC134, (by omega), Eb112, Bv112, Bc112, Bn112, Bm112, Vb112⟩
theorem d6_0 : DK cD31 0 (.aload_n 0) 1 := by decide +kernel
theorem d6_1 : DK cD31 1 (.aload_n 1) 1 := by decide +kernel
theorem d6_2 : DK cD31 2 (.invokespecial 7) 3 := by decide +kernel
theorem d6_5 : DK cD31 5 (.return_) 1 := by decide +kernel
theorem ef_rmSiL (m : MethodId) (y0 : Addr) (y1 : Addr) : entryFrame m #[(.ref y0), (.ref y1)] 2 = (mkF m 0 #[vR y0, vR y1] []) := by first | (simp [entryFrame, mkF, argsToLocals, Value.category]; done) | rfl
def Q_rmSiL (Z : State) (a1 : Addr) (a2 : Addr) (cs : List Int32) (cs0 : Int32) (t2 : Addr) (k2 : ClassId) (h0 : Heap) (n0 : Nat) (v : Option Value) (h : Heap) (L : List Loc) : Prop := ∃ (v1 : Addr) (kv : ClassId), v = none ∧ Fr n0 L ∧ Keep h0 h [a1] ∧ h0.size ≤ v1 ∧ Exa Z h a1 "java/lang/StringBuilder" ∧ Fld Z h a1 "java/lang/AbstractStringBuilder" "value" "[B" (.ref v1) ∧ Fld Z h a1 "java/lang/AbstractStringBuilder" "coder" "B" (.int 0) ∧ Fld Z h a1 "java/lang/AbstractStringBuilder" "count" "I" (.int (oN (lat cs).length)) ∧ Fld Z h a1 "java/lang/AbstractStringBuilder" "maybeLatin1" "Z" (.int 0) ∧ Arv Z h v1 kv .byte (oN ((lat cs).length + 16)) ((lat cs).map Value.int) (.int 0)
theorem rmSiL (l : Launch) (Z : State) (a0 : Array Value) (hw : HW a0 Z) (ws : List Jvm.Cond) (a1 : Addr) (a2 : Addr) (cs : List Int32) (cs0 : Int32) (t2 : Addr) (k2 : ClassId) (h0 : Heap) (n0 : Nat) (O0 : Old Z n0 h0) (S_CS : SCS Z cs0) (c_CS : ¬ (cs0 = (0 : Int32))) (E2 : Exa Z h0 a2 "java/lang/String") (Fv2 : Fld Z h0 a2 "java/lang/String" "value" "[B" (.ref t2)) (Fc2 : Fld Z h0 a2 "java/lang/String" "coder" "B" (.int 0)) (V2 : Arv Z h0 t2 k2 .byte (oN (lat cs).length) ((lat cs).map Value.int) (.int 0)) (hn : (lat cs).length ≤ 4) (g1 : n0 ≤ a1) (na2 : @Ne Nat a1 a2) (na3 : @Ne Nat a1 t2) (Eb : Exa Z h0 a1 "java/lang/StringBuilder") (Bv : Fld Z h0 a1 "java/lang/AbstractStringBuilder" "value" "[B" .null) (Bc : Fld Z h0 a1 "java/lang/AbstractStringBuilder" "coder" "B" (.int 0)) (Bn : Fld Z h0 a1 "java/lang/AbstractStringBuilder" "count" "I" (.int 0)) (Bm : Fld Z h0 a1 "java/lang/AbstractStringBuilder" "maybeLatin1" "Z" (.int 0)) :
  MF l mN31 jdk_67_method_3_code 2 none ws (Rm 7 1 40 210) Z #[(.ref a1), (.ref a2)] h0 (Q_rmSiL Z a1 a2 cs cs0 t2 k2 h0 n0) := by
 refine MetFree.of_bodySF (plainFor_of_name pn_6) hisR ?_
 intro p e s m args below meth c s₁ Bd hml0 hP hK
 obtain ⟨rfl, hZ, hh⟩ := hP
 have hx := Bd.exec
 have hby := Bd.bytes
 have hml : c.maxLocals = 2 := hml0
 have hown : s.vm.findClass "java/lang/StringBuilder" = some m.cls := findClass_of_methodNamed Bd.named
 have X0 : Stand p l e (Rm 7 1 40 210) s m #[(.ref a1), (.ref a2)] below meth c s₁ [] 0 0 := Stand.of_body Bd
 have e0 : s₁.heap = h0 := by rw [← hh, Bd.state]; rfl
 have N0 := Fr.nil n0
 have hn0 : n0 ≤ h0.size := O0.1 ▸ O0.2.1
 have pre0 : ∀ t, SS p e below s₁ m 0 #[vR a1, vR a2] [] t → SE p e below s₁ m #[(.ref a1), (.ref a2)] 2 t := fun t k => castTop (ef_rmSiL m a1 a2) k
 have lt_a1 : @LT.lt Nat _ a1 h0.size := Eb.lt
 have lt_a2 : @LT.lt Nat _ a2 h0.size := E2.lt
 have lt_t2 : @LT.lt Nat _ t2 h0.size := V2.lt
 obtain ⟨_, _, ⟨T101, L101, k101, n101⟩, -, X101, ⟨Lc101, hQ101, l101, y101, z101⟩, st101⟩ := X0.specialBack hx (y := mN30) rfl hown (mvT hZ (tw hw 37 rfl)) (mvT hZ (tw hw 38 rfl)) (mvT hZ (tw hw 42 rfl)) (by decide) (backOf (W := 0) (rmIiL l Z a0 hw [] a1 a2 cs cs0 t2 k2 h0 n0 O0 S_CS c_CS E2 Fv2 Fc2 V2 hn (by omega : @LE.le Nat _ n0 a1) (by omega) (by omega) Eb Bv Bc Bn Bm) hZ (tw hw 42 rfl) (tw hw 41 rfl) (by decide) (by decide)) (g := (mkF m 2 #[vR a1, vR a2] [(.ref a2), (.ref a1)])) rfl (by rw [hml]; rfl) (Steps.refl _) (a := a1) (argsL := [(.ref a2)]) (rest := []) (lenOf pd_5 rfl) rfl (wL _) (hb hby d6_2) (fun _ _ => ⟨rfl, e0, (by decide : 0 + 1 ≤ _), (by decide : 0 + 40 ≤ _)⟩)
 dsimp only [Pt.U, Pt.locs, Pt.cells, Pt.slots] at X101 l101 y101 z101 st101 hQ101
 subst l101 y101 z101
 obtain ⟨v101, kv101, rfl, N101q, K101, gv101, Eb101, Bv101, Bc101, Bn101, Bm101, Vb101⟩ := hQ101
 have ltv101 : @LT.lt Nat _ v101 T101.heap.size := Vb101.lt
 have sz1_K101 := K101.1
 have N101 := Fr.app N0 N101q
 have KC102 : Keep h0 T101.heap [a1] := (Keep.refl h0 [a1]).trans K101 (allS (Or.inl (List.mem_of_getElem? (i := 0) rfl)) (all0))
 obtain ⟨fs, hr, hrun, hended, hW, hsame⟩ := X101.leave (v := none) (fun _ => rfl)
 refine ⟨_, _, pre0 _ ?_, hrun, hended, _, _, rfl, ?_, ⟨_, rfl⟩, hW, hsame.mono (by decide) (by decide)⟩
 ·skip
  show SS p e below s₁ m 0 #[vR a1, vR a2] [] _
  refine XS.aloadN X0.here hx rfl (hb hby d6_0) rfl rfl ?_
  refine XS.aloadN X0.here hx rfl (hb hby d6_1) rfl rfl ?_
  show SS p e below s₁ m 2 #[vR a1, vR a2] [(.ref a2), (.ref a1)] _
  refine st101.trans ?_
  show SS p e below T101 m 5 #[vR a1, vR a2] [] _
  exact X101.returnOut hx Bd.returns (hb hby d6_5) hr
 ·show Q_rmSiL Z a1 a2 cs cs0 t2 k2 h0 n0 _ T101.heap _
  exact ⟨_, _, rfl, N101, KC102, (by omega), Eb101, Bv101, Bc101, Bn101, Bm101, Vb101⟩
theorem ef_rmGbU (m : MethodId) (y0 : Addr) (y1 : Addr) : entryFrame m #[(.ref y0), (.ref y1), (.int 0), (.int 1)] 4 = (mkF m 0 #[vR y0, vR y1, vI 0, vI 1] []) := by first | (simp [entryFrame, mkF, argsToLocals, Value.category]; done) | rfl
def Q_rmGbU (Z : State) (a1 : Addr) (a2 : Addr) (cs : List Int32) (cs0 : Int32) (t1 : Addr) (k1 : ClassId) (kd : ClassId) (h0 : Heap) (n0 : Nat) (v : Option Value) (h : Heap) (L : List Loc) : Prop := v = none ∧ Fr n0 L ∧ Keep h0 h [a2] ∧ Arv Z h a2 kd .byte (oN (2 * (cs.length + 16))) (u16 cs) (.int 0)
theorem rmGbU (l : Launch) (Z : State) (a0 : Array Value) (hw : HW a0 Z) (ws : List Jvm.Cond) (a1 : Addr) (a2 : Addr) (cs : List Int32) (cs0 : Int32) (t1 : Addr) (k1 : ClassId) (kd : ClassId) (h0 : Heap) (n0 : Nat) (O0 : Old Z n0 h0) (S_CS : SCS Z cs0) (c_CS : ¬ (cs0 = (0 : Int32))) (E1 : Exa Z h0 a1 "java/lang/String") (Fv1 : Fld Z h0 a1 "java/lang/String" "value" "[B" (.ref t1)) (Fc1 : Fld Z h0 a1 "java/lang/String" "coder" "B" (.int 1)) (V1 : Arv Z h0 t1 k1 .byte (oN (2 * cs.length)) (u16 cs) (.int 0)) (hn : cs.length ≤ 4) (gd : n0 ≤ a2) (Vd : Arv Z h0 a2 kd .byte (oN (2 * (cs.length + 16))) (List.replicate (2 * (cs.length + 16)) (.int 0)) (.int 0)) (ne : @Ne Nat t1 a2) :
  MF l mN23 jdk_42_method_147_code 4 none ws (Rm 1 0 0 60) Z #[(.ref a1), (.ref a2), (.int 0), (.int 1)] h0 (Q_rmGbU Z a1 a2 cs cs0 t1 k1 kd h0 n0) := by
 refine MetFree.of_bodySF (plainFor_of_name pn_2) hisR ?_
 intro p e s m args below meth c s₁ Bd hml0 hP hK
 obtain ⟨rfl, hZ, hh⟩ := hP
 have hx := Bd.exec
 have hby := Bd.bytes
 have hml : c.maxLocals = 4 := hml0
 have hown : s.vm.findClass "java/lang/String" = some m.cls := findClass_of_methodNamed Bd.named
 have X0 : Stand p l e (Rm 1 0 0 60) s m #[(.ref a1), (.ref a2), (.int 0), (.int 1)] below meth c s₁ [] 0 0 := Stand.of_body Bd
 have e0 : s₁.heap = h0 := by rw [← hh, Bd.state]; rfl
 have N0 := Fr.nil n0
 have hn0 : n0 ≤ h0.size := O0.1 ▸ O0.2.1
 have pre0 : ∀ t, SS p e below s₁ m 0 #[vR a1, vR a2, vI 0, vI 1] [] t → SE p e below s₁ m #[(.ref a1), (.ref a2), (.int 0), (.int 1)] 4 t := fun t k => castTop (ef_rmGbU m a1 a2) k
 have lt_a2 : @LT.lt Nat _ a2 h0.size := Vd.lt
 obtain ⟨cq101, kq101, q101a, q101b, q101c⟩ := isOf hZ e0 E1
 obtain ⟨_, _, ⟨T101, L101, k101, n101⟩, -, X101, ⟨Lc101, hQ101, l101, y101, z101⟩, st101⟩ := X0.virtualBack hx (y := mN10) (z := mN10) hown (mvT hZ (tw hw 49 rfl)) (mvT hZ (tw hw 50 rfl)) (notFace_of_selects (args := #[]) (mvT hZ (tw hw 52 rfl))) (mvT hZ (tw hw 52 rfl)) (mvT hZ (tw hw 51 rfl)) (by decide) (backOf (W := 0) (rmCoderU l Z a0 hw [] a1 cs t1 k1 cs0 h0 n0 O0 S_CS c_CS E1 Fv1 Fc1 V1 hn) hZ (tw hw 53 rfl) (tw hw 8 rfl) (by decide) (by decide)) q101a q101c (g := (mkF m 1 #[vR a1, vR a2, vI 0, vI 1] [(.ref a1)])) rfl (by rw [hml]; rfl) (Steps.refl _) (argsL := []) (rest := []) (lenOf pd_7 rfl) rfl (wL _) (hb hby d16_1) (fun _ _ => ⟨rfl, e0, (by decide : 0 + 0 ≤ _), (by decide : 0 + 0 ≤ _)⟩)
 dsimp only [Pt.U, Pt.locs, Pt.cells, Pt.slots] at X101 l101 y101 z101 st101 hQ101
 subst l101 y101 z101
 obtain ⟨rfl, N101q, H101⟩ := hQ101
 have N101 := Fr.app N0 N101q
 obtain ⟨T102, X102, e102, st102⟩ := getF X101 hx hZ hown (host := "") (Or.inl (tw hw 25 rfl)) Via.refl H101 Fv1 (g := (mkF m 9 #[vR a1, vR a2, vI 0, vI 1] [(.ref a1)])) rfl rfl (hb hby d16_9)
 obtain ⟨T103, X103, e103, st103⟩ := getF X102 hx hZ hown (host := "") (Or.inl (tw hw 25 rfl)) Via.refl e102 Fv1 (g := (mkF m 18 #[vR a1, vR a2, vI 0, vI 1] [(.ref a1), (.int ((0 : Int32) <<< ((1 : Int32) &&& 31))), (.ref a2), (.int 0), (.ref t1)])) rfl rfl (hb hby d16_18)
 obtain ⟨cl104, Ar104, q104, S104, Nn104, H104, G104⟩ := id V1
 obtain ⟨T105, h105, L105, X105, e105, N105, K105, V105w, st105⟩ := cpA X103 hx hZ hown (tw hw 98 rfl) (tw hw 101 rfl) (tw hw 99 rfl) (tw hw 100 rfl) e103 (us := (u16 cs)) V1 Vd (Or.inl ⟨rfl, rfl⟩) (by decide) (by decide) (own_nn (by omega)) (by rw [own_z0]; exact Nat.le_of_eq (Nat.zero_add _)) (by rw [own_zs1, own_nat (by omega), own_nat (by omega)]; omega) (own_cpy _ _ own_z0 (by rw [own_nat (by omega)]; exact u16_len cs)) (by rw [own_zs1, own_nat (by omega), List.length_replicate]; omega) N101 (by omega : @LE.le Nat _ n0 a2) (g := (mkF m 22 #[vR a1, vR a2, vI 0, vI 1] [(.int (oN (2 * cs.length))), (.int ((0 : Int32) <<< ((1 : Int32) &&& 31))), (.ref a2), (.int 0), (.ref t1)])) rfl (by rw [hml]; rfl) rfl (hb hby d16_22) (by decide) (W := 0) (wL _) (by decide)
 have V105 : Arv Z h105 a2 kd .byte (oN (2 * (cs.length + 16))) (u16 cs) (.int 0) := V105w.pad (own_padr _ _ own_zs1)
 have sz1_K105 := K105.1
 have KC106 : Keep h0 h105 [a2] := (Keep.refl h0 [a2]).trans K105 (allS (Or.inl (List.mem_of_getElem? (i := 0) rfl)) (all0))
 obtain ⟨fs, hr, hrun, hended, hW, hsame⟩ := X105.leave (v := none) (fun _ => rfl)
 refine ⟨_, _, pre0 _ ?_, hrun, hended, _, _, rfl, ?_, ⟨_, rfl⟩, hW, hsame.mono (by decide) (by decide)⟩
 ·skip
  show SS p e below s₁ m 0 #[vR a1, vR a2, vI 0, vI 1] [] _
  refine XS.aloadN X0.here hx rfl (hb hby d16_0) rfl rfl ?_
  show SS p e below s₁ m 1 #[vR a1, vR a2, vI 0, vI 1] [(.ref a1)] _
  refine st101.trans ?_
  refine XS.iloadN X101.here hx rfl (hb hby d16_4) rfl ?_
  refine XS.icmpNo X101.here hx rfl (hb hby d16_5) rfl (teq (by decide : (1 : Int32) = (1 : Int32))).2 ?_
  refine XS.aloadN X101.here hx rfl (hb hby d16_8) rfl rfl ?_
  show SS p e below T101 m 9 #[vR a1, vR a2, vI 0, vI 1] [(.ref a1)] _
  refine st102 _ ?_
  refine XS.iconst X102.here hx rfl (hb hby d16_12) ?_
  refine XS.aloadN X102.here hx rfl (hb hby d16_13) rfl rfl ?_
  refine XS.iloadN X102.here hx rfl (hb hby d16_14) rfl ?_
  refine XS.iloadN X102.here hx rfl (hb hby d16_15) rfl ?_
  show SS p e below T102 m 16 #[vR a1, vR a2, vI 0, vI 1] [(.int 1), (.int 0), (.ref a2), (.int 0), (.ref t1)] _
  refine XS.ishl X102.here hx rfl (hb hby d16_16) rfl ?_
  refine XS.aloadN X102.here hx rfl (hb hby d16_17) rfl rfl ?_
  show SS p e below T102 m 18 #[vR a1, vR a2, vI 0, vI 1] [(.ref a1), (.int ((0 : Int32) <<< ((1 : Int32) &&& 31))), (.ref a2), (.int 0), (.ref t1)] _
  refine st103 _ ?_
  show SS p e below T103 m 21 #[vR a1, vR a2, vI 0, vI 1] [(.ref t1), (.int ((0 : Int32) <<< ((1 : Int32) &&& 31))), (.ref a2), (.int 0), (.ref t1)] _
  refine X103.arraylength hx (by rw [e103]; exact Ar104.1) (State.isArrayOf_alike hZ.alike Ar104.2.1) (g := (mkF m 21 #[vR a1, vR a2, vI 0, vI 1] [(.ref t1), (.int ((0 : Int32) <<< ((1 : Int32) &&& 31))), (.ref a2), (.int 0), (.ref t1)])) rfl rfl (hb hby d16_21) _ ?_
  rw [len_of S104 Nn104]
  show SS p e below T103 m 22 #[vR a1, vR a2, vI 0, vI 1] [(.int (oN (2 * cs.length))), (.int ((0 : Int32) <<< ((1 : Int32) &&& 31))), (.ref a2), (.int 0), (.ref t1)] _
  refine st105 _ ?_
  refine XS.goto X105.here hx rfl (pc0 := 25) (pc' := 43) rfl (hb hby d16_25) (by decide) (by decide) ?_
  show SS p e below T105 m 43 #[vR a1, vR a2, vI 0, vI 1] [] _
  exact X105.returnOut hx Bd.returns (hb hby d16_43) hr
 ·show Q_rmGbU Z a1 a2 cs cs0 t1 k1 kd h0 n0 _ T105.heap _
  rw [e105]
  exact ⟨rfl, N105, KC106, V105⟩
theorem ef_rmInfU (m : MethodId) (y0 : Addr) (y1 : Addr) : entryFrame m #[(.ref y0), (.ref y1)] 2 = (mkF m 0 #[vR y0, vR y1] []) := by first | (simp [entryFrame, mkF, argsToLocals, Value.category]; done) | rfl
def Q_rmInfU (Z : State) (a1 : Addr) (a2 : Addr) (cs : List Int32) (cs0 : Int32) (t2 : Addr) (k2 : ClassId) (v1 : Addr) (kv : ClassId) (h0 : Heap) (n0 : Nat) (v : Option Value) (h : Heap) (L : List Loc) : Prop := v = none ∧ Fr n0 L ∧ h = h0
theorem rmInfU (l : Launch) (Z : State) (a0 : Array Value) (hw : HW a0 Z) (ws : List Jvm.Cond) (a1 : Addr) (a2 : Addr) (cs : List Int32) (cs0 : Int32) (t2 : Addr) (k2 : ClassId) (v1 : Addr) (kv : ClassId) (h0 : Heap) (n0 : Nat) (O0 : Old Z n0 h0) (S_CS : SCS Z cs0) (c_CS : ¬ (cs0 = (0 : Int32))) (E2 : Exa Z h0 a2 "java/lang/String") (Fv2 : Fld Z h0 a2 "java/lang/String" "value" "[B" (.ref t2)) (Fc2 : Fld Z h0 a2 "java/lang/String" "coder" "B" (.int 1)) (V2 : Arv Z h0 t2 k2 .byte (oN (2 * cs.length)) (u16 cs) (.int 0)) (hn : cs.length ≤ 4) (Eb : Exa Z h0 a1 "java/lang/StringBuilder") (Bv : Fld Z h0 a1 "java/lang/AbstractStringBuilder" "value" "[B" (.ref v1)) (Bc : Fld Z h0 a1 "java/lang/AbstractStringBuilder" "coder" "B" (.int 1)) (Bn : Fld Z h0 a1 "java/lang/AbstractStringBuilder" "count" "I" (.int 0)) (Bm : Fld Z h0 a1 "java/lang/AbstractStringBuilder" "maybeLatin1" "Z" (.int 0)) (Vb : Arv Z h0 v1 kv .byte (oN (2 * (cs.length + 16))) (List.replicate (2 * (cs.length + 16)) (.int 0)) (.int 0)) (g1 : n0 ≤ a1) (gv : n0 ≤ v1) (nv1 : @Ne Nat v1 a1) (nv2 : @Ne Nat v1 a2) (nv3 : @Ne Nat v1 t2) (na2 : @Ne Nat a1 a2) (na3 : @Ne Nat a1 t2) :
  MF l mN24 jdk_68_method_71_code 2 none ws (Rm 1 0 0 20) Z #[(.ref a1), (.ref a2)] h0 (Q_rmInfU Z a1 a2 cs cs0 t2 k2 v1 kv h0 n0) := by
 refine MetFree.of_bodySF (plainFor_of_name pn_7) hisR ?_
 intro p e s m args below meth c s₁ Bd hml0 hP hK
 obtain ⟨rfl, hZ, hh⟩ := hP
 have hx := Bd.exec
 have hby := Bd.bytes
 have hml : c.maxLocals = 2 := hml0
 have hown : s.vm.findClass "java/lang/AbstractStringBuilder" = some m.cls := findClass_of_methodNamed Bd.named
 have X0 : Stand p l e (Rm 1 0 0 20) s m #[(.ref a1), (.ref a2)] below meth c s₁ [] 0 0 := Stand.of_body Bd
 have e0 : s₁.heap = h0 := by rw [← hh, Bd.state]; rfl
 have N0 := Fr.nil n0
 have hn0 : n0 ≤ h0.size := O0.1 ▸ O0.2.1
 have pre0 : ∀ t, SS p e below s₁ m 0 #[vR a1, vR a2] [] t → SE p e below s₁ m #[(.ref a1), (.ref a2)] 2 t := fun t k => castTop (ef_rmInfU m a1 a2) k
 have lt_a1 : @LT.lt Nat _ a1 h0.size := Eb.lt
 have lt_v1 : @LT.lt Nat _ v1 h0.size := Vb.lt
 have lt_a2 : @LT.lt Nat _ a2 h0.size := E2.lt
 have lt_t2 : @LT.lt Nat _ t2 h0.size := V2.lt
 obtain ⟨T101, X101, e101, st101⟩ := getS2 X0 hx hZ hown (host := "") (Or.inl (tw hw 92 rfl)) Via.refl e0 (Sta.ext O0.2 S_CS) (g := (mkF m 0 #[vR a1, vR a2] [])) rfl (hb hby d15_0)
 obtain ⟨T102, X102, e102, st102⟩ := getF X101 hx hZ hown (host := "") (Or.inl (tw hw 57 rfl)) Via.refl e101 Bc (g := (mkF m 7 #[vR a1, vR a2] [(.ref a1)])) rfl rfl (hb hby d15_7)
 obtain ⟨cq103, kq103, q103a, q103b, q103c⟩ := isOf hZ e102 E2
 obtain ⟨_, _, ⟨T103, L103, k103, n103⟩, -, X103, ⟨Lc103, hQ103, l103, y103, z103⟩, st103⟩ := X102.virtualBack hx (y := mN10) (z := mN10) hown (mvT hZ (tw hw 56 rfl)) (mvT hZ (tw hw 50 rfl)) (notFace_of_selects (args := #[]) (mvT hZ (tw hw 52 rfl))) (mvT hZ (tw hw 52 rfl)) (mvT hZ (tw hw 51 rfl)) (by decide) (backOf (W := 1) (rmCoderU l Z a0 hw [] a2 cs t2 k2 cs0 h0 n0 O0 S_CS c_CS E2 Fv2 Fc2 V2 hn) hZ (tw hw 53 rfl) (tw hw 8 rfl) (by decide) (by decide)) q103a q103c (g := (mkF m 11 #[vR a1, vR a2] [(.ref a2), (.int 1)])) rfl (by rw [hml]; rfl) (Steps.refl _) (argsL := []) (rest := [(.int 1)]) (lenOf pd_7 rfl) rfl (wL _) (hb hby d15_11) (fun _ _ => ⟨rfl, e102, (by decide : 0 + 0 ≤ _), (by decide : 0 + 0 ≤ _)⟩)
 dsimp only [Pt.U, Pt.locs, Pt.cells, Pt.slots] at X103 l103 y103 z103 st103 hQ103
 subst l103 y103 z103
 obtain ⟨rfl, N103q, H103⟩ := hQ103
 have N103 := Fr.app N0 N103q
 obtain ⟨fs, hr, hrun, hended, hW, hsame⟩ := X103.leave (v := none) (fun _ => rfl)
 refine ⟨_, _, pre0 _ ?_, hrun, hended, _, _, rfl, ?_, ⟨_, rfl⟩, hW, hsame.mono (by decide) (by decide)⟩
 ·skip
  show SS p e below s₁ m 0 #[vR a1, vR a2] [] _
  refine st101 _ ?_
  refine XS.ifNo X101.here hx rfl (hb hby d15_3) rfl ((if0 _ _).trans (feq (c_CS : ¬ (cs0 = (0 : Int32)))).1) ?_
  refine XS.aloadN X101.here hx rfl (hb hby d15_6) rfl rfl ?_
  show SS p e below T101 m 7 #[vR a1, vR a2] [(.ref a1)] _
  refine st102 _ ?_
  refine XS.aloadN X102.here hx rfl (hb hby d15_10) rfl rfl ?_
  show SS p e below T102 m 11 #[vR a1, vR a2] [(.ref a2), (.int 1)] _
  refine st103.trans ?_
  refine XS.icmpYes X103.here hx rfl (pc0 := 14) (pc' := 21) rfl (hb hby d15_14) rfl (teq (by decide : (1 : Int32) = (1 : Int32))).1 (by decide) (by decide) ?_
  show SS p e below T103 m 21 #[vR a1, vR a2] [] _
  exact X103.returnOut hx Bd.returns (hb hby d15_21) hr
 ·show Q_rmInfU Z a1 a2 cs cs0 t2 k2 v1 kv h0 n0 _ T103.heap _
  rw [H103]
  exact ⟨rfl, N103, rfl⟩
theorem ef_rmPsaU (m : MethodId) (y0 : Addr) (y1 : Addr) : entryFrame m #[(.ref y0), (.int 0), (.ref y1)] 3 = (mkF m 0 #[vR y0, vI 0, vR y1] []) := by first | (simp [entryFrame, mkF, argsToLocals, Value.category]; done) | rfl
def Q_rmPsaU (Z : State) (a1 : Addr) (a2 : Addr) (cs : List Int32) (cs0 : Int32) (t2 : Addr) (k2 : ClassId) (v1 : Addr) (kv : ClassId) (h0 : Heap) (n0 : Nat) (v : Option Value) (h : Heap) (L : List Loc) : Prop := v = none ∧ Fr n0 L ∧ Keep h0 h [v1] ∧ Arv Z h v1 kv .byte (oN (2 * (cs.length + 16))) (u16 cs) (.int 0)
theorem rmPsaU (l : Launch) (Z : State) (a0 : Array Value) (hw : HW a0 Z) (ws : List Jvm.Cond) (a1 : Addr) (a2 : Addr) (cs : List Int32) (cs0 : Int32) (t2 : Addr) (k2 : ClassId) (v1 : Addr) (kv : ClassId) (h0 : Heap) (n0 : Nat) (O0 : Old Z n0 h0) (S_CS : SCS Z cs0) (c_CS : ¬ (cs0 = (0 : Int32))) (E2 : Exa Z h0 a2 "java/lang/String") (Fv2 : Fld Z h0 a2 "java/lang/String" "value" "[B" (.ref t2)) (Fc2 : Fld Z h0 a2 "java/lang/String" "coder" "B" (.int 1)) (V2 : Arv Z h0 t2 k2 .byte (oN (2 * cs.length)) (u16 cs) (.int 0)) (hn : cs.length ≤ 4) (Eb : Exa Z h0 a1 "java/lang/StringBuilder") (Bv : Fld Z h0 a1 "java/lang/AbstractStringBuilder" "value" "[B" (.ref v1)) (Bc : Fld Z h0 a1 "java/lang/AbstractStringBuilder" "coder" "B" (.int 1)) (Bn : Fld Z h0 a1 "java/lang/AbstractStringBuilder" "count" "I" (.int 0)) (Bm : Fld Z h0 a1 "java/lang/AbstractStringBuilder" "maybeLatin1" "Z" (.int 0)) (Vb : Arv Z h0 v1 kv .byte (oN (2 * (cs.length + 16))) (List.replicate (2 * (cs.length + 16)) (.int 0)) (.int 0)) (g1 : n0 ≤ a1) (gv : n0 ≤ v1) (nv1 : @Ne Nat v1 a1) (nv2 : @Ne Nat v1 a2) (nv3 : @Ne Nat v1 t2) (na2 : @Ne Nat a1 a2) (na3 : @Ne Nat a1 t2) :
  MF l mN25 jdk_68_method_73_code 3 none ws (Rm 2 0 0 90) Z #[(.ref a1), (.int 0), (.ref a2)] h0 (Q_rmPsaU Z a1 a2 cs cs0 t2 k2 v1 kv h0 n0) := by
 refine MetFree.of_bodySF (plainFor_of_name pn_7) hisR ?_
 intro p e s m args below meth c s₁ Bd hml0 hP hK
 obtain ⟨rfl, hZ, hh⟩ := hP
 have hx := Bd.exec
 have hby := Bd.bytes
 have hml : c.maxLocals = 3 := hml0
 have hown : s.vm.findClass "java/lang/AbstractStringBuilder" = some m.cls := findClass_of_methodNamed Bd.named
 have X0 : Stand p l e (Rm 2 0 0 90) s m #[(.ref a1), (.int 0), (.ref a2)] below meth c s₁ [] 0 0 := Stand.of_body Bd
 have e0 : s₁.heap = h0 := by rw [← hh, Bd.state]; rfl
 have N0 := Fr.nil n0
 have hn0 : n0 ≤ h0.size := O0.1 ▸ O0.2.1
 have pre0 : ∀ t, SS p e below s₁ m 0 #[vR a1, vI 0, vR a2] [] t → SE p e below s₁ m #[(.ref a1), (.int 0), (.ref a2)] 3 t := fun t k => castTop (ef_rmPsaU m a1 a2) k
 have lt_a1 : @LT.lt Nat _ a1 h0.size := Eb.lt
 have lt_v1 : @LT.lt Nat _ v1 h0.size := Vb.lt
 have lt_a2 : @LT.lt Nat _ a2 h0.size := E2.lt
 have lt_t2 : @LT.lt Nat _ t2 h0.size := V2.lt
 obtain ⟨cq101, kq101, q101a, q101b, q101c⟩ := isOf hZ e0 Eb
 obtain ⟨_, _, ⟨T101, L101, k101, n101⟩, -, X101, ⟨Lc101, hQ101, l101, y101, z101⟩, st101⟩ := X0.virtualBack hx (y := mN24) (z := mN24) hown (mvT hZ (tw hw 87 rfl)) (mvT hZ (own_decl (tw hw 88 rfl) (tw hw 91 rfl))) (own_nface (a0 := #[]) (y := mN24) (mvT hZ (tw hw 80 rfl)) rfl) (mvT hZ (tw hw 90 rfl)) (mvT hZ (tw hw 88 rfl)) (by decide) (backOf (W := 0) (rmInfU l Z a0 hw [] a1 a2 cs cs0 t2 k2 v1 kv h0 n0 O0 S_CS c_CS E2 Fv2 Fc2 V2 hn Eb Bv Bc Bn Bm Vb (by omega : @LE.le Nat _ n0 a1) (by omega : @LE.le Nat _ n0 v1) (by omega) (by omega) (by omega) (by omega) (by omega)) hZ (tw hw 91 rfl) (tw hw 41 rfl) (by decide) (by decide)) q101a q101c (g := (mkF m 2 #[vR a1, vI 0, vR a2] [(.ref a2), (.ref a1)])) rfl (by rw [hml]; rfl) (Steps.refl _) (argsL := [(.ref a2)]) (rest := []) (lenOf pd_5 rfl) rfl (wL _) (hb hby d14_2) (fun _ _ => ⟨rfl, e0, (by decide : 0 + 0 ≤ _), (by decide : 0 + 0 ≤ _)⟩)
 dsimp only [Pt.U, Pt.locs, Pt.cells, Pt.slots] at X101 l101 y101 z101 st101 hQ101
 subst l101 y101 z101
 obtain ⟨rfl, N101q, H101⟩ := hQ101
 have N101 := Fr.app N0 N101q
 obtain ⟨T102, X102, e102, st102⟩ := getF X101 hx hZ hown (host := "") (Or.inl (tw hw 59 rfl)) Via.refl H101 Bv (g := (mkF m 7 #[vR a1, vI 0, vR a2] [(.ref a1), (.ref a2)])) rfl rfl (hb hby d14_7)
 obtain ⟨T103, X103, e103, st103⟩ := getF X102 hx hZ hown (host := "") (Or.inl (tw hw 57 rfl)) Via.refl e102 Bc (g := (mkF m 12 #[vR a1, vI 0, vR a2] [(.ref a1), (.int 0), (.ref v1), (.ref a2)])) rfl rfl (hb hby d14_12)
 obtain ⟨cq104, kq104, q104a, q104b, q104c⟩ := isOf hZ e103 E2
 obtain ⟨_, _, ⟨T104, L104, k104, n104⟩, -, X104, ⟨Lc104, hQ104, l104, y104, z104⟩, st104⟩ := X103.virtualBack hx (y := mN23) (z := mN23) hown (mvT hZ (tw hw 93 rfl)) (mvT hZ (tw hw 94 rfl)) (notFace_of_selects (args := #[]) (mvT hZ (tw hw 96 rfl))) (mvT hZ (tw hw 96 rfl)) (mvT hZ (tw hw 95 rfl)) (by decide) (backOf (W := 0) (rmGbU l Z a0 hw [] a2 v1 cs cs0 t2 k2 kv h0 n0 O0 S_CS c_CS E2 Fv2 Fc2 V2 hn (by omega : @LE.le Nat _ n0 v1) Vb (by omega)) hZ (tw hw 97 rfl) (tw hw 8 rfl) (by decide) (by decide)) q104a q104c (g := (mkF m 15 #[vR a1, vI 0, vR a2] [(.int 1), (.int 0), (.ref v1), (.ref a2)])) rfl (by rw [hml]; rfl) (Steps.refl _) (argsL := [(.ref v1), (.int 0), (.int 1)]) (rest := []) (lenOf pd_12 rfl) rfl (wL _) (hb hby d14_15) (fun _ _ => ⟨rfl, e103, (by decide : 0 + 0 ≤ _), (by decide : 0 + 0 ≤ _)⟩)
 dsimp only [Pt.U, Pt.locs, Pt.cells, Pt.slots] at X104 l104 y104 z104 st104 hQ104
 subst l104 y104 z104
 obtain ⟨rfl, N104q, K104, V104⟩ := hQ104
 have sz1_K104 := K104.1
 have N104 := Fr.app N101 N104q
 have KC105 : Keep h0 T104.heap [v1] := (Keep.refl h0 [v1]).trans K104 (allS (Or.inl (List.mem_of_getElem? (i := 0) rfl)) (all0))
 obtain ⟨fs, hr, hrun, hended, hW, hsame⟩ := X104.leave (v := none) (fun _ => rfl)
 refine ⟨_, _, pre0 _ ?_, hrun, hended, _, _, rfl, ?_, ⟨_, rfl⟩, hW, hsame.mono (by decide) (by decide)⟩
 ·skip
  show SS p e below s₁ m 0 #[vR a1, vI 0, vR a2] [] _
  refine XS.aloadN X0.here hx rfl (hb hby d14_0) rfl rfl ?_
  refine XS.aloadN X0.here hx rfl (hb hby d14_1) rfl rfl ?_
  show SS p e below s₁ m 2 #[vR a1, vI 0, vR a2] [(.ref a2), (.ref a1)] _
  refine st101.trans ?_
  refine XS.aloadN X101.here hx rfl (hb hby d14_5) rfl rfl ?_
  refine XS.aloadN X101.here hx rfl (hb hby d14_6) rfl rfl ?_
  show SS p e below T101 m 7 #[vR a1, vI 0, vR a2] [(.ref a1), (.ref a2)] _
  refine st102 _ ?_
  refine XS.iloadN X102.here hx rfl (hb hby d14_10) rfl ?_
  refine XS.aloadN X102.here hx rfl (hb hby d14_11) rfl rfl ?_
  show SS p e below T102 m 12 #[vR a1, vI 0, vR a2] [(.ref a1), (.int 0), (.ref v1), (.ref a2)] _
  refine st103 _ ?_
  show SS p e below T103 m 15 #[vR a1, vI 0, vR a2] [(.int 1), (.int 0), (.ref v1), (.ref a2)] _
  refine st104.trans ?_
  show SS p e below T104 m 18 #[vR a1, vI 0, vR a2] [] _
  exact X104.returnOut hx Bd.returns (hb hby d14_18) hr
 ·show Q_rmPsaU Z a1 a2 cs cs0 t2 k2 v1 kv h0 n0 _ T104.heap _
  exact ⟨rfl, N104, KC105, V104⟩
theorem ef_rmEnsU (m : MethodId) (y0 : Addr) (y1 : Int32) : entryFrame m #[(.ref y0), (.int y1)] 3 = (mkF m 0 #[vR y0, vI y1, .unset] []) := by first | (simp [entryFrame, mkF, argsToLocals, Value.category]; done) | rfl
def Q_rmEnsU (Z : State) (a1 : Addr) (cs : List Int32) (v1 : Addr) (kv : ClassId) (h0 : Heap) (n0 : Nat) (v : Option Value) (h : Heap) (L : List Loc) : Prop := v = none ∧ Fr n0 L ∧ h = h0
theorem rmEnsU (l : Launch) (Z : State) (a0 : Array Value) (hw : HW a0 Z) (ws : List Jvm.Cond) (a1 : Addr) (cs : List Int32) (v1 : Addr) (kv : ClassId) (h0 : Heap) (n0 : Nat) (O0 : Old Z n0 h0) (Eb : Exa Z h0 a1 "java/lang/StringBuilder") (Bv : Fld Z h0 a1 "java/lang/AbstractStringBuilder" "value" "[B" (.ref v1)) (Bc : Fld Z h0 a1 "java/lang/AbstractStringBuilder" "coder" "B" (.int 1)) (Vb : Arv Z h0 v1 kv .byte (oN (2 * (cs.length + 16))) (List.replicate (2 * (cs.length + 16)) (.int 0)) (.int 0)) (hn : cs.length ≤ 4) :
  MF l mN26 jdk_68_method_9_code 3 none ws (Rm 0 0 0 0) Z #[(.ref a1), (.int (oN cs.length))] h0 (Q_rmEnsU Z a1 cs v1 kv h0 n0) := by
 refine MetFree.of_bodySF (plainFor_of_name pn_7) hisR ?_
 intro p e s m args below meth c s₁ Bd hml0 hP hK
 obtain ⟨rfl, hZ, hh⟩ := hP
 have hx := Bd.exec
 have hby := Bd.bytes
 have hml : c.maxLocals = 3 := hml0
 have hown : s.vm.findClass "java/lang/AbstractStringBuilder" = some m.cls := findClass_of_methodNamed Bd.named
 have X0 : Stand p l e (Rm 0 0 0 0) s m #[(.ref a1), (.int (oN cs.length))] below meth c s₁ [] 0 0 := Stand.of_body Bd
 have e0 : s₁.heap = h0 := by rw [← hh, Bd.state]; rfl
 have N0 := Fr.nil n0
 have hn0 : n0 ≤ h0.size := O0.1 ▸ O0.2.1
 have pre0 : ∀ t, SS p e below s₁ m 0 #[vR a1, vI (oN cs.length), .unset] [] t → SE p e below s₁ m #[(.ref a1), (.int (oN cs.length))] 3 t := fun t k => castTop (ef_rmEnsU m a1 ((oN cs.length))) k
 obtain ⟨T101, X101, e101, st101⟩ := getF X0 hx hZ hown (host := "") (Or.inl (tw hw 59 rfl)) Via.refl e0 Bv (g := (mkF m 1 #[vR a1, vI (oN cs.length), .unset] [(.ref a1)])) rfl rfl (hb hby d13_1)
 obtain ⟨cl102, Ar102, q102, S102, Nn102, H102, G102⟩ := id Vb
 obtain ⟨T103, X103, e103, st103⟩ := getF X101 hx hZ hown (host := "") (Or.inl (tw hw 57 rfl)) Via.refl e101 Bc (g := (mkF m 6 #[vR a1, vI (oN cs.length), .unset] [(.ref a1), (.int (oN (2 * (cs.length + 16))))])) rfl rfl (hb hby d13_6)
 have hr104 : ((oN (2 * (cs.length + 16))) >>> ((1 : Int32) &&& 31)) = (oN (cs.length + 16)) := own_shr1 (by omega)
 obtain ⟨fs, hr, hrun, hended, hW, hsame⟩ := X103.leave (v := none) (fun _ => rfl)
 refine ⟨_, _, pre0 _ ?_, hrun, hended, _, _, rfl, ?_, ⟨_, rfl⟩, hW, hsame.mono (by decide) (by decide)⟩
 ·skip
  show SS p e below s₁ m 0 #[vR a1, vI (oN cs.length), .unset] [] _
  refine XS.aloadN X0.here hx rfl (hb hby d13_0) rfl rfl ?_
  show SS p e below s₁ m 1 #[vR a1, vI (oN cs.length), .unset] [(.ref a1)] _
  refine st101 _ ?_
  show SS p e below T101 m 4 #[vR a1, vI (oN cs.length), .unset] [(.ref v1)] _
  refine X101.arraylength hx (by rw [e101]; exact Ar102.1) (State.isArrayOf_alike hZ.alike Ar102.2.1) (g := (mkF m 4 #[vR a1, vI (oN cs.length), .unset] [(.ref v1)])) rfl rfl (hb hby d13_4) _ ?_
  rw [len_of S102 Nn102]
  refine XS.aloadN X101.here hx rfl (hb hby d13_5) rfl rfl ?_
  show SS p e below T101 m 6 #[vR a1, vI (oN cs.length), .unset] [(.ref a1), (.int (oN (2 * (cs.length + 16))))] _
  refine st103 _ ?_
  show SS p e below T103 m 9 #[vR a1, vI (oN cs.length), .unset] [(.int 1), (.int (oN (2 * (cs.length + 16))))] _
  refine XS.ishr X103.here hx rfl (hb hby d13_9) rfl ?_
  show SS p e below T103 m 10 #[vR a1, vI (oN cs.length), .unset] [(.int ((oN (2 * (cs.length + 16))) >>> ((1 : Int32) &&& 31)))] _
  rw [hr104]
  refine XS.istoreN X103.here hx rfl (hb hby d13_10) rfl (l' := #[vR a1, vI (oN cs.length), vI (oN (cs.length + 16))]) rfl ?_
  refine XS.iloadN X103.here hx rfl (hb hby d13_11) rfl ?_
  refine XS.iloadN X103.here hx rfl (hb hby d13_12) rfl ?_
  refine XS.isub X103.here hx rfl (hb hby d13_13) rfl ?_
  refine XS.ifYes X103.here hx rfl (pc0 := 14) (pc' := 38) rfl (hb hby d13_14) rfl ((if0 _ _).trans (flt (own_subn (by omega) (by omega) : ¬ ((0 : Int32) < ((oN cs.length) - (oN (cs.length + 16)))))).2.2.2) (by decide) (by decide) ?_
  show SS p e below T103 m 38 #[vR a1, vI (oN cs.length), vI (oN (cs.length + 16))] [] _
  exact X103.returnOut hx Bd.returns (hb hby d13_38) hr
 ·show Q_rmEnsU Z a1 cs v1 kv h0 n0 _ T103.heap _
  rw [e103]
  exact ⟨rfl, N0, rfl⟩
theorem ef_rmApU (m : MethodId) (y0 : Addr) (y1 : Addr) : entryFrame m #[(.ref y0), (.ref y1)] 3 = (mkF m 0 #[vR y0, vR y1, .unset] []) := by first | (simp [entryFrame, mkF, argsToLocals, Value.category]; done) | rfl
def Q_rmApU (Z : State) (a1 : Addr) (a2 : Addr) (cs : List Int32) (cs0 : Int32) (t2 : Addr) (k2 : ClassId) (v1 : Addr) (kv : ClassId) (h0 : Heap) (n0 : Nat) (v : Option Value) (h : Heap) (L : List Loc) : Prop := v = some (.ref a1) ∧ Fr n0 L ∧ Keep h0 h [a1, v1] ∧ Exa Z h a1 "java/lang/StringBuilder" ∧ Fld Z h a1 "java/lang/AbstractStringBuilder" "value" "[B" (.ref v1) ∧ Fld Z h a1 "java/lang/AbstractStringBuilder" "coder" "B" (.int 1) ∧ Fld Z h a1 "java/lang/AbstractStringBuilder" "count" "I" (.int (oN cs.length)) ∧ Fld Z h a1 "java/lang/AbstractStringBuilder" "maybeLatin1" "Z" (.int 0) ∧ Arv Z h v1 kv .byte (oN (2 * (cs.length + 16))) (u16 cs) (.int 0)
theorem rmApU (l : Launch) (Z : State) (a0 : Array Value) (hw : HW a0 Z) (ws : List Jvm.Cond) (a1 : Addr) (a2 : Addr) (cs : List Int32) (cs0 : Int32) (t2 : Addr) (k2 : ClassId) (v1 : Addr) (kv : ClassId) (h0 : Heap) (n0 : Nat) (O0 : Old Z n0 h0) (S_CS : SCS Z cs0) (c_CS : ¬ (cs0 = (0 : Int32))) (E2 : Exa Z h0 a2 "java/lang/String") (Fv2 : Fld Z h0 a2 "java/lang/String" "value" "[B" (.ref t2)) (Fc2 : Fld Z h0 a2 "java/lang/String" "coder" "B" (.int 1)) (V2 : Arv Z h0 t2 k2 .byte (oN (2 * cs.length)) (u16 cs) (.int 0)) (hn : cs.length ≤ 4) (Eb : Exa Z h0 a1 "java/lang/StringBuilder") (Bv : Fld Z h0 a1 "java/lang/AbstractStringBuilder" "value" "[B" (.ref v1)) (Bc : Fld Z h0 a1 "java/lang/AbstractStringBuilder" "coder" "B" (.int 1)) (Bn : Fld Z h0 a1 "java/lang/AbstractStringBuilder" "count" "I" (.int 0)) (Bm : Fld Z h0 a1 "java/lang/AbstractStringBuilder" "maybeLatin1" "Z" (.int 0)) (Vb : Arv Z h0 v1 kv .byte (oN (2 * (cs.length + 16))) (List.replicate (2 * (cs.length + 16)) (.int 0)) (.int 0)) (g1 : n0 ≤ a1) (gv : n0 ≤ v1) (nv1 : @Ne Nat v1 a1) (nv2 : @Ne Nat v1 a2) (nv3 : @Ne Nat v1 t2) (na2 : @Ne Nat a1 a2) (na3 : @Ne Nat a1 t2) :
  MF l mN27 jdk_68_method_22_code 3 (some (.object "java/lang/AbstractStringBuilder")) ws (Rm 3 0 0 120) Z #[(.ref a1), (.ref a2)] h0 (Q_rmApU Z a1 a2 cs cs0 t2 k2 v1 kv h0 n0) := by
 refine MetFree.of_bodySF (plainFor_of_name pn_7) hisR ?_
 intro p e s m args below meth c s₁ Bd hml0 hP hK
 obtain ⟨rfl, hZ, hh⟩ := hP
 have hx := Bd.exec
 have hby := Bd.bytes
 have hml : c.maxLocals = 3 := hml0
 have hown : s.vm.findClass "java/lang/AbstractStringBuilder" = some m.cls := findClass_of_methodNamed Bd.named
 have X0 : Stand p l e (Rm 3 0 0 120) s m #[(.ref a1), (.ref a2)] below meth c s₁ [] 0 0 := Stand.of_body Bd
 have e0 : s₁.heap = h0 := by rw [← hh, Bd.state]; rfl
 have N0 := Fr.nil n0
 have hn0 : n0 ≤ h0.size := O0.1 ▸ O0.2.1
 have pre0 : ∀ t, SS p e below s₁ m 0 #[vR a1, vR a2, .unset] [] t → SE p e below s₁ m #[(.ref a1), (.ref a2)] 3 t := fun t k => castTop (ef_rmApU m a1 a2) k
 have lt_a1 : @LT.lt Nat _ a1 h0.size := Eb.lt
 have lt_v1 : @LT.lt Nat _ v1 h0.size := Vb.lt
 have lt_a2 : @LT.lt Nat _ a2 h0.size := E2.lt
 have lt_t2 : @LT.lt Nat _ t2 h0.size := V2.lt
 obtain ⟨cq101, kq101, q101a, q101b, q101c⟩ := isOf hZ e0 E2
 obtain ⟨_, _, ⟨T101, L101, k101, n101⟩, -, X101, ⟨Lc101, hQ101, l101, y101, z101⟩, st101⟩ := X0.virtualBack hx (y := mN12) (z := mN12) hown (mvT hZ (tw hw 44 rfl)) (mvT hZ (tw hw 45 rfl)) (notFace_of_selects (args := #[]) (mvT hZ (tw hw 47 rfl))) (mvT hZ (tw hw 47 rfl)) (mvT hZ (tw hw 46 rfl)) (by decide) (backOf (W := 0) (rmLenU l Z a0 hw [] a2 cs t2 k2 cs0 h0 n0 O0 S_CS c_CS E2 Fv2 Fc2 V2 hn) hZ (tw hw 48 rfl) (tw hw 8 rfl) (by decide) (by decide)) q101a q101c (g := (mkF m 10 #[vR a1, vR a2, .unset] [(.ref a2)])) rfl (by rw [hml]; rfl) (Steps.refl _) (argsL := []) (rest := []) (lenOf pd_6 rfl) rfl (wL _) (hb hby d12_10) (fun _ _ => ⟨rfl, e0, (by decide : 0 + 0 ≤ _), (by decide : 0 + 0 ≤ _)⟩)
 dsimp only [Pt.U, Pt.locs, Pt.cells, Pt.slots] at X101 l101 y101 z101 st101 hQ101
 subst l101 y101 z101
 obtain ⟨rfl, N101q, H101⟩ := hQ101
 have N101 := Fr.app N0 N101q
 obtain ⟨T102, X102, e102, st102⟩ := getF X101 hx hZ hown (host := "") (Or.inl (tw hw 75 rfl)) Via.refl H101 Bn (g := (mkF m 16 #[vR a1, vR a2, vI (oN cs.length)] [(.ref a1), (.ref a1)])) rfl rfl (hb hby d12_16)
 have hr103 : ((0 : Int32) + (oN cs.length)) = (oN cs.length) := Int32.zero_add _
 obtain ⟨cq104, kq104, q104a, q104b, q104c⟩ := isOf hZ e102 Eb
 obtain ⟨_, _, ⟨T104, L104, k104, n104⟩, -, X104, ⟨Lc104, hQ104, l104, y104, z104⟩, st104⟩ := X102.virtualBack hx (y := mN26) (z := mN26) hown (mvT hZ (tw hw 77 rfl)) (mvT hZ (own_decl (tw hw 78 rfl) (tw hw 81 rfl))) (own_nface (a0 := #[]) (y := mN26) (mvT hZ (tw hw 80 rfl)) rfl) (mvT hZ (tw hw 80 rfl)) (mvT hZ (tw hw 78 rfl)) (by decide) (backOf (W := 0) (rmEnsU l Z a0 hw [] a1 cs v1 kv h0 n0 O0 Eb Bv Bc Vb hn) hZ (tw hw 81 rfl) (tw hw 41 rfl) (by decide) (by decide)) q104a q104c (g := (mkF m 21 #[vR a1, vR a2, vI (oN cs.length)] [(.int (oN cs.length)), (.ref a1)])) rfl (by rw [hml]; rfl) (Steps.refl _) (argsL := [(.int (oN cs.length))]) (rest := []) (lenOf pd_10 rfl) rfl (wL _) (hb hby d12_21) (fun _ _ => ⟨rfl, e102, (by decide : 0 + 0 ≤ _), (by decide : 0 + 0 ≤ _)⟩)
 dsimp only [Pt.U, Pt.locs, Pt.cells, Pt.slots] at X104 l104 y104 z104 st104 hQ104
 subst l104 y104 z104
 obtain ⟨rfl, N104q, H104⟩ := hQ104
 have N104 := Fr.app N101 N104q
 obtain ⟨T105, X105, e105, st105⟩ := getF X104 hx hZ hown (host := "") (Or.inl (tw hw 75 rfl)) Via.refl H104 Bn (g := (mkF m 26 #[vR a1, vR a2, vI (oN cs.length)] [(.ref a1), (.ref a1)])) rfl rfl (hb hby d12_26)
 obtain ⟨cq106, kq106, q106a, q106b, q106c⟩ := isOf hZ e105 Eb
 obtain ⟨_, _, ⟨T106, L106, k106, n106⟩, -, X106, ⟨Lc106, hQ106, l106, y106, z106⟩, st106⟩ := X105.virtualBack hx (y := mN25) (z := mN25) hown (mvT hZ (tw hw 82 rfl)) (mvT hZ (own_decl (tw hw 83 rfl) (tw hw 86 rfl))) (own_nface (a0 := #[]) (y := mN25) (mvT hZ (tw hw 80 rfl)) rfl) (mvT hZ (tw hw 85 rfl)) (mvT hZ (tw hw 83 rfl)) (by decide) (backOf (W := 0) (rmPsaU l Z a0 hw [] a1 a2 cs cs0 t2 k2 v1 kv h0 n0 O0 S_CS c_CS E2 Fv2 Fc2 V2 hn Eb Bv Bc Bn Bm Vb (by omega : @LE.le Nat _ n0 a1) (by omega : @LE.le Nat _ n0 v1) (by omega) (by omega) (by omega) (by omega) (by omega)) hZ (tw hw 86 rfl) (tw hw 41 rfl) (by decide) (by decide)) q106a q106c (g := (mkF m 30 #[vR a1, vR a2, vI (oN cs.length)] [(.ref a2), (.int 0), (.ref a1)])) rfl (by rw [hml]; rfl) (Steps.refl _) (argsL := [(.int 0), (.ref a2)]) (rest := []) (lenOf pd_11 rfl) rfl (wL _) (hb hby d12_30) (fun _ _ => ⟨rfl, e105, (by decide : 0 + 0 ≤ _), (by decide : 0 + 0 ≤ _)⟩)
 dsimp only [Pt.U, Pt.locs, Pt.cells, Pt.slots] at X106 l106 y106 z106 st106 hQ106
 subst l106 y106 z106
 obtain ⟨rfl, N106q, K106, V106⟩ := hQ106
 have sz1_K106 := K106.1
 have N106 := Fr.app N104 N106q
 have C107 := Bn.keep K106 (ninS (by omega : @Ne Nat a1 v1) (nin0))
 obtain ⟨T108, X108, e108, st108⟩ := getF X106 hx hZ hown (host := "") (Or.inl (tw hw 75 rfl)) Via.refl rfl C107 (g := (mkF m 35 #[vR a1, vR a2, vI (oN cs.length)] [(.ref a1), (.ref a1)])) rfl rfl (hb hby d12_35)
 have hr109 : ((0 : Int32) + (oN cs.length)) = (oN cs.length) := Int32.zero_add _
 have C110 := Eb.keep K106
 obtain ⟨T111, h111, X111, e111, W111, st111⟩ := putF X108 hx hZ hown (host := "") (Or.inl (tw hw 75 rfl)) Via.refl e108 C107 C110 (Or.inl (tw hw 76 rfl)) (tw hw 32 rfl) (ty := .int) (by decide) rfl rfl (g := (mkF m 40 #[vR a1, vR a2, vI (oN cs.length)] [(.int (oN cs.length)), (.ref a1)])) rfl rfl (hb hby d12_40)
 have K111 := Keep.of_wr W111
 have Fw111 := Fld.same W111 C107
 have N111 := Fr.snoc X111 N106 (by omega : @LE.le Nat _ n0 a1)
 have sz2_K111 := K111.1
 have KC112 : Keep h0 T106.heap [a1, v1] := (Keep.refl h0 [a1, v1]).trans K106 (allS (Or.inl (List.mem_of_getElem? (i := 1) rfl)) (all0))
 have KC113 : Keep h0 h111 [a1, v1] := KC112.trans K111 (allS (Or.inl (List.mem_of_getElem? (i := 0) rfl)) (all0))
 have C114 := C110.keep K111
 have C115 := Bv.keep K106 (ninS (by omega : @Ne Nat a1 v1) (nin0))
 have C116 := Fld.other W111 C115 (Or.inr (slot_ne (Or.inl (tw hw 60 rfl)) (Or.inl (tw hw 76 rfl)) (by decide) (t := (.array .byte)) (t' := .int) (by decide) (by decide)))
 have C117 := Bc.keep K106 (ninS (by omega : @Ne Nat a1 v1) (nin0))
 have C118 := Fld.other W111 C117 (Or.inr (slot_ne (Or.inl (tw hw 58 rfl)) (Or.inl (tw hw 76 rfl)) (by decide) (t := .byte) (t' := .int) (by decide) (by decide)))
 have C119 := Bm.keep K106 (ninS (by omega : @Ne Nat a1 v1) (nin0))
 have C120 := Fld.other W111 C119 (Or.inr (slot_ne (Or.inl (tw hw 242 rfl)) (Or.inl (tw hw 76 rfl)) (by decide) (t := .boolean) (t' := .int) (by decide) (by decide)))
 have C121 := V106.keep K111 (ninS (by omega : @Ne Nat v1 a1) (nin0))
 obtain ⟨fs, hr, hrun, hended, hW, hsame⟩ := X111.leave (v := some (.ref a1)) (nvr Bd.returns)
 refine ⟨_, _, pre0 _ ?_, hrun, hended, _, _, rfl, ?_, ⟨_, rfl⟩, hW, hsame.mono (by decide) (by decide)⟩
 ·skip
  show SS p e below s₁ m 0 #[vR a1, vR a2, .unset] [] _
  refine XS.aloadN X0.here hx rfl (hb hby d12_0) rfl rfl ?_
  refine XS.ifnonnullYes X0.here hx rfl (pc0 := 1) (pc' := 9) rfl (hb hby d12_1) rfl (by decide) (by decide) ?_
  refine XS.aloadN X0.here hx rfl (hb hby d12_9) rfl rfl ?_
  show SS p e below s₁ m 10 #[vR a1, vR a2, .unset] [(.ref a2)] _
  refine st101.trans ?_
  refine XS.istoreN X101.here hx rfl (hb hby d12_13) rfl (l' := #[vR a1, vR a2, vI (oN cs.length)]) rfl ?_
  refine XS.aloadN X101.here hx rfl (hb hby d12_14) rfl rfl ?_
  refine XS.aloadN X101.here hx rfl (hb hby d12_15) rfl rfl ?_
  show SS p e below T101 m 16 #[vR a1, vR a2, vI (oN cs.length)] [(.ref a1), (.ref a1)] _
  refine st102 _ ?_
  refine XS.iloadN X102.here hx rfl (hb hby d12_19) rfl ?_
  refine XS.iadd X102.here hx rfl (hb hby d12_20) rfl ?_
  show SS p e below T102 m 21 #[vR a1, vR a2, vI (oN cs.length)] [(.int ((0 : Int32) + (oN cs.length))), (.ref a1)] _
  rw [hr103]
  show SS p e below T102 m 21 #[vR a1, vR a2, vI (oN cs.length)] [(.int (oN cs.length)), (.ref a1)] _
  refine st104.trans ?_
  refine XS.aloadN X104.here hx rfl (hb hby d12_24) rfl rfl ?_
  refine XS.aloadN X104.here hx rfl (hb hby d12_25) rfl rfl ?_
  show SS p e below T104 m 26 #[vR a1, vR a2, vI (oN cs.length)] [(.ref a1), (.ref a1)] _
  refine st105 _ ?_
  refine XS.aloadN X105.here hx rfl (hb hby d12_29) rfl rfl ?_
  show SS p e below T105 m 30 #[vR a1, vR a2, vI (oN cs.length)] [(.ref a2), (.int 0), (.ref a1)] _
  refine st106.trans ?_
  refine XS.aloadN X106.here hx rfl (hb hby d12_33) rfl rfl ?_
  refine XS.dup X106.here hx rfl (hb hby d12_34) rfl rfl ?_
  show SS p e below T106 m 35 #[vR a1, vR a2, vI (oN cs.length)] [(.ref a1), (.ref a1)] _
  refine st108 _ ?_
  refine XS.iloadN X108.here hx rfl (hb hby d12_38) rfl ?_
  refine XS.iadd X108.here hx rfl (hb hby d12_39) rfl ?_
  show SS p e below T108 m 40 #[vR a1, vR a2, vI (oN cs.length)] [(.int ((0 : Int32) + (oN cs.length))), (.ref a1)] _
  rw [hr109]
  show SS p e below T108 m 40 #[vR a1, vR a2, vI (oN cs.length)] [(.int (oN cs.length)), (.ref a1)] _
  refine st111 _ ?_
  refine XS.aloadN X111.here hx rfl (hb hby d12_43) rfl rfl ?_
  show SS p e below T111 m 44 #[vR a1, vR a2, vI (oN cs.length)] [(.ref a1)] _
  exact X111.areturnOut hx rfl Bd.returns rfl (hb hby d12_44) hr
 ·show Q_rmApU Z a1 a2 cs cs0 t2 k2 v1 kv h0 n0 _ T111.heap _
  rw [e111]
  exact ⟨rfl, N111, KC113, C114, C116, C118, Fw111, C120, C121⟩
theorem ef_rmSaU (m : MethodId) (y0 : Addr) (y1 : Addr) : entryFrame m #[(.ref y0), (.ref y1)] 2 = (mkF m 0 #[vR y0, vR y1] []) := by first | (simp [entryFrame, mkF, argsToLocals, Value.category]; done) | rfl
def Q_rmSaU (Z : State) (a1 : Addr) (a2 : Addr) (cs : List Int32) (cs0 : Int32) (t2 : Addr) (k2 : ClassId) (v1 : Addr) (kv : ClassId) (h0 : Heap) (n0 : Nat) (v : Option Value) (h : Heap) (L : List Loc) : Prop := v = some (.ref a1) ∧ Fr n0 L ∧ Keep h0 h [a1, v1] ∧ Exa Z h a1 "java/lang/StringBuilder" ∧ Fld Z h a1 "java/lang/AbstractStringBuilder" "value" "[B" (.ref v1) ∧ Fld Z h a1 "java/lang/AbstractStringBuilder" "coder" "B" (.int 1) ∧ Fld Z h a1 "java/lang/AbstractStringBuilder" "count" "I" (.int (oN cs.length)) ∧ Fld Z h a1 "java/lang/AbstractStringBuilder" "maybeLatin1" "Z" (.int 0) ∧ Arv Z h v1 kv .byte (oN (2 * (cs.length + 16))) (u16 cs) (.int 0)
theorem rmSaU (l : Launch) (Z : State) (a0 : Array Value) (hw : HW a0 Z) (ws : List Jvm.Cond) (a1 : Addr) (a2 : Addr) (cs : List Int32) (cs0 : Int32) (t2 : Addr) (k2 : ClassId) (v1 : Addr) (kv : ClassId) (h0 : Heap) (n0 : Nat) (O0 : Old Z n0 h0) (S_CS : SCS Z cs0) (c_CS : ¬ (cs0 = (0 : Int32))) (E2 : Exa Z h0 a2 "java/lang/String") (Fv2 : Fld Z h0 a2 "java/lang/String" "value" "[B" (.ref t2)) (Fc2 : Fld Z h0 a2 "java/lang/String" "coder" "B" (.int 1)) (V2 : Arv Z h0 t2 k2 .byte (oN (2 * cs.length)) (u16 cs) (.int 0)) (hn : cs.length ≤ 4) (Eb : Exa Z h0 a1 "java/lang/StringBuilder") (Bv : Fld Z h0 a1 "java/lang/AbstractStringBuilder" "value" "[B" (.ref v1)) (Bc : Fld Z h0 a1 "java/lang/AbstractStringBuilder" "coder" "B" (.int 1)) (Bn : Fld Z h0 a1 "java/lang/AbstractStringBuilder" "count" "I" (.int 0)) (Bm : Fld Z h0 a1 "java/lang/AbstractStringBuilder" "maybeLatin1" "Z" (.int 0)) (Vb : Arv Z h0 v1 kv .byte (oN (2 * (cs.length + 16))) (List.replicate (2 * (cs.length + 16)) (.int 0)) (.int 0)) (g1 : n0 ≤ a1) (gv : n0 ≤ v1) (nv1 : @Ne Nat v1 a1) (nv2 : @Ne Nat v1 a2) (nv3 : @Ne Nat v1 t2) (na2 : @Ne Nat a1 a2) (na3 : @Ne Nat a1 t2) :
  MF l mN28 jdk_67_method_7_code 2 (some (.object "java/lang/StringBuilder")) ws (Rm 4 0 0 140) Z #[(.ref a1), (.ref a2)] h0 (Q_rmSaU Z a1 a2 cs cs0 t2 k2 v1 kv h0 n0) := by
 refine MetFree.of_bodySF (plainFor_of_name pn_6) hisR ?_
 intro p e s m args below meth c s₁ Bd hml0 hP hK
 obtain ⟨rfl, hZ, hh⟩ := hP
 have hx := Bd.exec
 have hby := Bd.bytes
 have hml : c.maxLocals = 2 := hml0
 have hown : s.vm.findClass "java/lang/StringBuilder" = some m.cls := findClass_of_methodNamed Bd.named
 have X0 : Stand p l e (Rm 4 0 0 140) s m #[(.ref a1), (.ref a2)] below meth c s₁ [] 0 0 := Stand.of_body Bd
 have e0 : s₁.heap = h0 := by rw [← hh, Bd.state]; rfl
 have N0 := Fr.nil n0
 have hn0 : n0 ≤ h0.size := O0.1 ▸ O0.2.1
 have pre0 : ∀ t, SS p e below s₁ m 0 #[vR a1, vR a2] [] t → SE p e below s₁ m #[(.ref a1), (.ref a2)] 2 t := fun t k => castTop (ef_rmSaU m a1 a2) k
 have lt_a1 : @LT.lt Nat _ a1 h0.size := Eb.lt
 have lt_v1 : @LT.lt Nat _ v1 h0.size := Vb.lt
 have lt_a2 : @LT.lt Nat _ a2 h0.size := E2.lt
 have lt_t2 : @LT.lt Nat _ t2 h0.size := V2.lt
 obtain ⟨_, _, ⟨T101, L101, k101, n101⟩, -, X101, ⟨Lc101, hQ101, l101, y101, z101⟩, st101⟩ := superBack X0 hx hZ hown (tw hw 72 rfl) (own_same (tw hw 63 rfl) (own_nface (a0 := a0) (y := mN27) (tw hw 80 rfl) rfl) (by decide)) (tw hw 63 rfl) (tw hw 73 rfl) (by decide) (backOf (W := 0) (rmApU l Z a0 hw [] a1 a2 cs cs0 t2 k2 v1 kv h0 n0 O0 S_CS c_CS E2 Fv2 Fc2 V2 hn Eb Bv Bc Bn Bm Vb (by omega : @LE.le Nat _ n0 a1) (by omega : @LE.le Nat _ n0 v1) (by omega) (by omega) (by omega) (by omega) (by omega)) hZ (tw hw 74 rfl) (tw hw 41 rfl) (by decide) (by decide)) e0 (Ins.self Eb) (g := (mkF m 2 #[vR a1, vR a2] [(.ref a2), (.ref a1)])) rfl (by rw [hml]; rfl) (tw hw 74 rfl) (a := a1) (argsL := [(.ref a2)]) (rest := []) (lenOf pd_8 rfl) rfl (wL _) (hb hby d11_2) (fun _ _ => ⟨rfl, e0, (by decide : 0 + 0 ≤ _), (by decide : 0 + 0 ≤ _)⟩)
 dsimp only [Pt.U, Pt.locs, Pt.cells, Pt.slots] at X101 l101 y101 z101 st101 hQ101
 subst l101 y101 z101
 obtain ⟨rfl, N101q, K101, Eb101, Bv101, Bc101, Bn101, Bm101, Vb101⟩ := hQ101
 have sz1_K101 := K101.1
 have N101 := Fr.app N0 N101q
 have KC102 : Keep h0 T101.heap [a1, v1] := (Keep.refl h0 [a1, v1]).trans K101 (allS (Or.inl (List.mem_of_getElem? (i := 0) rfl)) (allS (Or.inl (List.mem_of_getElem? (i := 1) rfl)) (all0)))
 obtain ⟨fs, hr, hrun, hended, hW, hsame⟩ := X101.leave (v := some (.ref a1)) (nvr Bd.returns)
 refine ⟨_, _, pre0 _ ?_, hrun, hended, _, _, rfl, ?_, ⟨_, rfl⟩, hW, hsame.mono (by decide) (by decide)⟩
 ·skip
  show SS p e below s₁ m 0 #[vR a1, vR a2] [] _
  refine XS.aloadN X0.here hx rfl (hb hby d11_0) rfl rfl ?_
  refine XS.aloadN X0.here hx rfl (hb hby d11_1) rfl rfl ?_
  show SS p e below s₁ m 2 #[vR a1, vR a2] [(.ref a2), (.ref a1)] _
  refine st101.trans ?_
  refine XS.pop X101.here hx rfl (hb hby d11_5) rfl rfl ?_
  refine XS.aloadN X101.here hx rfl (hb hby d11_6) rfl rfl ?_
  show SS p e below T101 m 7 #[vR a1, vR a2] [(.ref a1)] _
  exact X101.areturnOut hx rfl Bd.returns rfl (hb hby d11_7) hr
 ·show Q_rmSaU Z a1 a2 cs cs0 t2 k2 v1 kv h0 n0 _ T101.heap _
  exact ⟨rfl, N101, KC102, Eb101, Bv101, Bc101, Bn101, Bm101, Vb101⟩
theorem ef_rmSabU (m : MethodId) (y0 : Addr) (y1 : Addr) : entryFrame m #[(.ref y0), (.ref y1)] 2 = (mkF m 0 #[vR y0, vR y1] []) := by first | (simp [entryFrame, mkF, argsToLocals, Value.category]; done) | rfl
def Q_rmSabU (Z : State) (a1 : Addr) (a2 : Addr) (cs : List Int32) (cs0 : Int32) (t2 : Addr) (k2 : ClassId) (v1 : Addr) (kv : ClassId) (h0 : Heap) (n0 : Nat) (v : Option Value) (h : Heap) (L : List Loc) : Prop := v = some (.ref a1) ∧ Fr n0 L ∧ Keep h0 h [a1, v1] ∧ Exa Z h a1 "java/lang/StringBuilder" ∧ Fld Z h a1 "java/lang/AbstractStringBuilder" "value" "[B" (.ref v1) ∧ Fld Z h a1 "java/lang/AbstractStringBuilder" "coder" "B" (.int 1) ∧ Fld Z h a1 "java/lang/AbstractStringBuilder" "count" "I" (.int (oN cs.length)) ∧ Fld Z h a1 "java/lang/AbstractStringBuilder" "maybeLatin1" "Z" (.int 0) ∧ Arv Z h v1 kv .byte (oN (2 * (cs.length + 16))) (u16 cs) (.int 0)
theorem rmSabU (l : Launch) (Z : State) (a0 : Array Value) (hw : HW a0 Z) (ws : List Jvm.Cond) (a1 : Addr) (a2 : Addr) (cs : List Int32) (cs0 : Int32) (t2 : Addr) (k2 : ClassId) (v1 : Addr) (kv : ClassId) (h0 : Heap) (n0 : Nat) (O0 : Old Z n0 h0) (S_CS : SCS Z cs0) (c_CS : ¬ (cs0 = (0 : Int32))) (E2 : Exa Z h0 a2 "java/lang/String") (Fv2 : Fld Z h0 a2 "java/lang/String" "value" "[B" (.ref t2)) (Fc2 : Fld Z h0 a2 "java/lang/String" "coder" "B" (.int 1)) (V2 : Arv Z h0 t2 k2 .byte (oN (2 * cs.length)) (u16 cs) (.int 0)) (hn : cs.length ≤ 4) (Eb : Exa Z h0 a1 "java/lang/StringBuilder") (Bv : Fld Z h0 a1 "java/lang/AbstractStringBuilder" "value" "[B" (.ref v1)) (Bc : Fld Z h0 a1 "java/lang/AbstractStringBuilder" "coder" "B" (.int 1)) (Bn : Fld Z h0 a1 "java/lang/AbstractStringBuilder" "count" "I" (.int 0)) (Bm : Fld Z h0 a1 "java/lang/AbstractStringBuilder" "maybeLatin1" "Z" (.int 0)) (Vb : Arv Z h0 v1 kv .byte (oN (2 * (cs.length + 16))) (List.replicate (2 * (cs.length + 16)) (.int 0)) (.int 0)) (g1 : n0 ≤ a1) (gv : n0 ≤ v1) (nv1 : @Ne Nat v1 a1) (nv2 : @Ne Nat v1 a2) (nv3 : @Ne Nat v1 t2) (na2 : @Ne Nat a1 a2) (na3 : @Ne Nat a1 t2) :
  MF l mN29 jdk_67_method_80_code 2 (some (.object "java/lang/AbstractStringBuilder")) ws (Rm 5 0 0 160) Z #[(.ref a1), (.ref a2)] h0 (Q_rmSabU Z a1 a2 cs cs0 t2 k2 v1 kv h0 n0) := by
 refine MetFree.of_bodySF (plainFor_of_name pn_6) hisR ?_
 intro p e s m args below meth c s₁ Bd hml0 hP hK
 obtain ⟨rfl, hZ, hh⟩ := hP
 have hx := Bd.exec
 have hby := Bd.bytes
 have hml : c.maxLocals = 2 := hml0
 have hown : s.vm.findClass "java/lang/StringBuilder" = some m.cls := findClass_of_methodNamed Bd.named
 have X0 : Stand p l e (Rm 5 0 0 160) s m #[(.ref a1), (.ref a2)] below meth c s₁ [] 0 0 := Stand.of_body Bd
 have e0 : s₁.heap = h0 := by rw [← hh, Bd.state]; rfl
 have N0 := Fr.nil n0
 have hn0 : n0 ≤ h0.size := O0.1 ▸ O0.2.1
 have pre0 : ∀ t, SS p e below s₁ m 0 #[vR a1, vR a2] [] t → SE p e below s₁ m #[(.ref a1), (.ref a2)] 2 t := fun t k => castTop (ef_rmSabU m a1 a2) k
 have lt_a1 : @LT.lt Nat _ a1 h0.size := Eb.lt
 have lt_v1 : @LT.lt Nat _ v1 h0.size := Vb.lt
 have lt_a2 : @LT.lt Nat _ a2 h0.size := E2.lt
 have lt_t2 : @LT.lt Nat _ t2 h0.size := V2.lt
 obtain ⟨cq101, kq101, q101a, q101b, q101c⟩ := isOf hZ e0 Eb
 obtain ⟨_, _, ⟨T101, L101, k101, n101⟩, -, X101, ⟨Lc101, hQ101, l101, y101, z101⟩, st101⟩ := X0.virtualBack hx (y := mN28) (z := mN28) hown (mvT hZ (tw hw 67 rfl)) (mvT hZ (tw hw 68 rfl)) (notFace_of_selects (args := #[]) (mvT hZ (tw hw 70 rfl))) (mvT hZ (tw hw 70 rfl)) (mvT hZ (tw hw 69 rfl)) (by decide) (backOf (W := 0) (rmSaU l Z a0 hw [] a1 a2 cs cs0 t2 k2 v1 kv h0 n0 O0 S_CS c_CS E2 Fv2 Fc2 V2 hn Eb Bv Bc Bn Bm Vb (by omega : @LE.le Nat _ n0 a1) (by omega : @LE.le Nat _ n0 v1) (by omega) (by omega) (by omega) (by omega) (by omega)) hZ (tw hw 71 rfl) (tw hw 33 rfl) (by decide) (by decide)) q101a q101c (g := (mkF m 2 #[vR a1, vR a2] [(.ref a2), (.ref a1)])) rfl (by rw [hml]; rfl) (Steps.refl _) (argsL := [(.ref a2)]) (rest := []) (lenOf pd_9 rfl) rfl (wL _) (hb hby d10_2) (fun _ _ => ⟨rfl, e0, (by decide : 0 + 0 ≤ _), (by decide : 0 + 0 ≤ _)⟩)
 dsimp only [Pt.U, Pt.locs, Pt.cells, Pt.slots] at X101 l101 y101 z101 st101 hQ101
 subst l101 y101 z101
 obtain ⟨rfl, N101q, K101, Eb101, Bv101, Bc101, Bn101, Bm101, Vb101⟩ := hQ101
 have sz1_K101 := K101.1
 have N101 := Fr.app N0 N101q
 have KC102 : Keep h0 T101.heap [a1, v1] := (Keep.refl h0 [a1, v1]).trans K101 (allS (Or.inl (List.mem_of_getElem? (i := 0) rfl)) (allS (Or.inl (List.mem_of_getElem? (i := 1) rfl)) (all0)))
 obtain ⟨fs, hr, hrun, hended, hW, hsame⟩ := X101.leave (v := some (.ref a1)) (nvr Bd.returns)
 refine ⟨_, _, pre0 _ ?_, hrun, hended, _, _, rfl, ?_, ⟨_, rfl⟩, hW, hsame.mono (by decide) (by decide)⟩
 ·skip
  show SS p e below s₁ m 0 #[vR a1, vR a2] [] _
  refine XS.aloadN X0.here hx rfl (hb hby d10_0) rfl rfl ?_
  refine XS.aloadN X0.here hx rfl (hb hby d10_1) rfl rfl ?_
  show SS p e below s₁ m 2 #[vR a1, vR a2] [(.ref a2), (.ref a1)] _
  refine st101.trans ?_
  show SS p e below T101 m 5 #[vR a1, vR a2] [(.ref a1)] _
  exact X101.areturnOut hx rfl Bd.returns rfl (hb hby d10_5) hr
 ·show Q_rmSabU Z a1 a2 cs cs0 t2 k2 v1 kv h0 n0 _ T101.heap _
  exact ⟨rfl, N101, KC102, Eb101, Bv101, Bc101, Bn101, Bm101, Vb101⟩
theorem d7_49 : DK cD30 49 (.iload_n 3) 1 := by decide +kernel
theorem d7_50 : DK cD30 50 (.invokestatic 26) 3 := by decide +kernel
theorem ef_rmIiU (m : MethodId) (y0 : Addr) (y1 : Addr) : entryFrame m #[(.ref y0), (.ref y1)] 5 = (mkF m 0 #[vR y0, vR y1, .unset, .unset, .unset] []) := by first | (simp [entryFrame, mkF, argsToLocals, Value.category]; done) | rfl
def Q_rmIiU (Z : State) (a1 : Addr) (a2 : Addr) (cs : List Int32) (cs0 : Int32) (t2 : Addr) (k2 : ClassId) (h0 : Heap) (n0 : Nat) (v : Option Value) (h : Heap) (L : List Loc) : Prop := ∃ (v1 : Addr) (kv : ClassId), v = none ∧ Fr n0 L ∧ Keep h0 h [a1] ∧ h0.size ≤ v1 ∧ Exa Z h a1 "java/lang/StringBuilder" ∧ Fld Z h a1 "java/lang/AbstractStringBuilder" "value" "[B" (.ref v1) ∧ Fld Z h a1 "java/lang/AbstractStringBuilder" "coder" "B" (.int 1) ∧ Fld Z h a1 "java/lang/AbstractStringBuilder" "count" "I" (.int (oN cs.length)) ∧ Fld Z h a1 "java/lang/AbstractStringBuilder" "maybeLatin1" "Z" (.int 0) ∧ Arv Z h v1 kv .byte (oN (2 * (cs.length + 16))) (u16 cs) (.int 0)
theorem rmIiU (l : Launch) (Z : State) (a0 : Array Value) (hw : HW a0 Z) (ws : List Jvm.Cond) (a1 : Addr) (a2 : Addr) (cs : List Int32) (cs0 : Int32) (t2 : Addr) (k2 : ClassId) (h0 : Heap) (n0 : Nat) (O0 : Old Z n0 h0) (S_CS : SCS Z cs0) (c_CS : ¬ (cs0 = (0 : Int32))) (E2 : Exa Z h0 a2 "java/lang/String") (Fv2 : Fld Z h0 a2 "java/lang/String" "value" "[B" (.ref t2)) (Fc2 : Fld Z h0 a2 "java/lang/String" "coder" "B" (.int 1)) (V2 : Arv Z h0 t2 k2 .byte (oN (2 * cs.length)) (u16 cs) (.int 0)) (hn : cs.length ≤ 4) (g1 : n0 ≤ a1) (na2 : @Ne Nat a1 a2) (na3 : @Ne Nat a1 t2) (Eb : Exa Z h0 a1 "java/lang/StringBuilder") (Bv : Fld Z h0 a1 "java/lang/AbstractStringBuilder" "value" "[B" .null) (Bc : Fld Z h0 a1 "java/lang/AbstractStringBuilder" "coder" "B" (.int 0)) (Bn : Fld Z h0 a1 "java/lang/AbstractStringBuilder" "count" "I" (.int 0)) (Bm : Fld Z h0 a1 "java/lang/AbstractStringBuilder" "maybeLatin1" "Z" (.int 0)) :
  MF l mN30 jdk_68_method_3_code 5 none ws (Rm 6 1 40 190) Z #[(.ref a1), (.ref a2)] h0 (Q_rmIiU Z a1 a2 cs cs0 t2 k2 h0 n0) := by
 refine MetFree.of_bodySF (plainFor_of_name pn_7) hisR ?_
 intro p e s m args below meth c s₁ Bd hml0 hP hK
 obtain ⟨rfl, hZ, hh⟩ := hP
 have hx := Bd.exec
 have hby := Bd.bytes
 have hml : c.maxLocals = 5 := hml0
 have hown : s.vm.findClass "java/lang/AbstractStringBuilder" = some m.cls := findClass_of_methodNamed Bd.named
 have X0 : Stand p l e (Rm 6 1 40 190) s m #[(.ref a1), (.ref a2)] below meth c s₁ [] 0 0 := Stand.of_body Bd
 have e0 : s₁.heap = h0 := by rw [← hh, Bd.state]; rfl
 have N0 := Fr.nil n0
 have hn0 : n0 ≤ h0.size := O0.1 ▸ O0.2.1
 have pre0 : ∀ t, SS p e below s₁ m 0 #[vR a1, vR a2, .unset, .unset, .unset] [] t → SE p e below s₁ m #[(.ref a1), (.ref a2)] 5 t := fun t k => castTop (ef_rmIiU m a1 a2) k
 have lt_a1 : @LT.lt Nat _ a1 h0.size := Eb.lt
 have lt_a2 : @LT.lt Nat _ a2 h0.size := E2.lt
 have lt_t2 : @LT.lt Nat _ t2 h0.size := V2.lt
 obtain ⟨T101, X101, e101, st101⟩ := initO X0 hx hZ hown (tw hw 43 rfl) (tw hw 17 rfl) (tw hw 18 rfl) e0 (g := (mkF m 1 #[vR a1, vR a2, .unset, .unset, .unset] [(.ref a1)])) rfl (by rw [hml]; rfl) rfl (hb hby d7_1) (by decide) (W := 0) (wL _) (by decide)
 obtain ⟨cq102, kq102, q102a, q102b, q102c⟩ := isOf hZ e101 E2
 obtain ⟨_, _, ⟨T102, L102, k102, n102⟩, -, X102, ⟨Lc102, hQ102, l102, y102, z102⟩, st102⟩ := X101.virtualBack hx (y := mN12) (z := mN12) hown (mvT hZ (tw hw 44 rfl)) (mvT hZ (tw hw 45 rfl)) (notFace_of_selects (args := #[]) (mvT hZ (tw hw 47 rfl))) (mvT hZ (tw hw 47 rfl)) (mvT hZ (tw hw 46 rfl)) (by decide) (backOf (W := 0) (rmLenU l Z a0 hw [] a2 cs t2 k2 cs0 h0 n0 O0 S_CS c_CS E2 Fv2 Fc2 V2 hn) hZ (tw hw 48 rfl) (tw hw 8 rfl) (by decide) (by decide)) q102a q102c (g := (mkF m 5 #[vR a1, vR a2, .unset, .unset, .unset] [(.ref a2)])) rfl (by rw [hml]; rfl) (Steps.refl _) (argsL := []) (rest := []) (lenOf pd_6 rfl) rfl (wL _) (hb hby d7_5) (fun _ _ => ⟨rfl, e101, (by decide : 0 + 0 ≤ _), (by decide : 0 + 0 ≤ _)⟩)
 dsimp only [Pt.U, Pt.locs, Pt.cells, Pt.slots] at X102 l102 y102 z102 st102 hQ102
 subst l102 y102 z102
 obtain ⟨rfl, N102q, H102⟩ := hQ102
 have N102 := Fr.app N0 N102q
 have hr103 : ((oN cs.length) + (16 : Int32)) = (oN (cs.length + 16)) := own_add _ 16
 obtain ⟨cq104, kq104, q104a, q104b, q104c⟩ := isOf hZ H102 E2
 obtain ⟨_, _, ⟨T104, L104, k104, n104⟩, -, X104, ⟨Lc104, hQ104, l104, y104, z104⟩, st104⟩ := X102.virtualBack hx (y := mN10) (z := mN10) hown (mvT hZ (tw hw 56 rfl)) (mvT hZ (tw hw 50 rfl)) (notFace_of_selects (args := #[]) (mvT hZ (tw hw 52 rfl))) (mvT hZ (tw hw 52 rfl)) (mvT hZ (tw hw 51 rfl)) (by decide) (backOf (W := 0) (rmCoderU l Z a0 hw [] a2 cs t2 k2 cs0 h0 n0 O0 S_CS c_CS E2 Fv2 Fc2 V2 hn) hZ (tw hw 53 rfl) (tw hw 8 rfl) (by decide) (by decide)) q104a q104c (g := (mkF m 26 #[vR a1, vR a2, vI (oN cs.length), vI (oN (cs.length + 16)), .unset] [(.ref a2)])) rfl (by rw [hml]; rfl) (Steps.refl _) (argsL := []) (rest := []) (lenOf pd_7 rfl) rfl (wL _) (hb hby d7_26) (fun _ _ => ⟨rfl, H102, (by decide : 0 + 0 ≤ _), (by decide : 0 + 0 ≤ _)⟩)
 dsimp only [Pt.U, Pt.locs, Pt.cells, Pt.slots] at X104 l104 y104 z104 st104 hQ104
 subst l104 y104 z104
 obtain ⟨rfl, N104q, H104⟩ := hQ104
 have N104 := Fr.app N102 N104q
 obtain ⟨T105, h105, X105, e105, W105, st105⟩ := putFN X104 hx hZ hown (tw hw 57 rfl) Via.refl H104 Bc Eb (Or.inl (tw hw 58 rfl)) (tw hw 32 rfl) (ty := .byte) (v' := (.int 1)) (by decide) rfl rfl (g := (mkF m 34 #[vR a1, vR a2, vI (oN cs.length), vI (oN (cs.length + 16)), vI 1] [(.int 1), (.ref a1)])) rfl rfl (hb hby d7_34)
 have K105 := Keep.of_wr W105
 have Fw105 := Fld.same W105 Bc
 have N105 := Fr.snoc X105 N104 (by omega : @LE.le Nat _ n0 a1)
 have sz1_K105 := K105.1
 have O107 : Old Z n0 h105 := O0.keep K105 (allS (by omega) (all0))
 obtain ⟨_, _, ⟨T106, L106, k106, n106⟩, -, X106, ⟨Lc106, hQ106, l106, y106, z106⟩, st106⟩ := Jvm.LawKit.callS X105 hx (y := mN3) hown (mvT hZ (tw hw 239 rfl)) (mvT hZ (tw hw 224 rfl)) (mvT hZ (tw hw 156 rfl)) (mvT hZ (tw hw 225 rfl)) (by decide) (backOf (W := 1) (rm46 l Z a0 hw []  (cs.length + 16) h105 n0 O107 (by omega)) hZ (tw hw 225 rfl) (tw hw 156 rfl) (by decide) (by decide)) (g := (mkF m 50 #[vR a1, vR a2, vI (oN cs.length), vI (oN (cs.length + 16)), vI 1] [(.int (oN (cs.length + 16))), (.ref a1)])) rfl (by rw [hml]; rfl) (argsL := [(.int (oN (cs.length + 16)))]) (rest := [(.ref a1)]) (lenOf pd_33 rfl) rfl (wL _) (hb hby d7_50) (fun _ _ => ⟨rfl, e105, (by decide : 0 + 1 ≤ _), (by decide : 0 + 40 ≤ _)⟩)
 dsimp only [Pt.U, Pt.locs, Pt.cells, Pt.slots] at X106 l106 y106 z106 st106 hQ106
 subst l106 y106 z106
 obtain ⟨t106, kb106, rfl, N106q, K106, gt106, V106⟩ := hQ106
 have lt106 : @LT.lt Nat _ t106 T106.heap.size := V106.lt
 have sz2_K106 := K106.1
 have N106 := Fr.app N105 N106q
 have KD108 : Keep h0 T106.heap [a1] := ((Keep.refl _ _).trans K105 (allS (Or.inl (List.mem_of_getElem? (i := 0) rfl)) (all0))).trans K106 (all0)
 have C109 := Eb.keep KD108
 have C110 := Fld.other W105 Bv (Or.inr (slot_ne (Or.inl (tw hw 60 rfl)) (Or.inl (tw hw 58 rfl)) (by decide) (t := (.array .byte)) (t' := .byte) (by decide) (by decide)))
 have C111 := C110.keep K106 nin0
 obtain ⟨T112, h112, X112, e112, W112, st112⟩ := putF X106 hx hZ hown (host := "") (Or.inl (tw hw 59 rfl)) Via.refl rfl C111 C109 (Or.inl (tw hw 60 rfl)) (tw hw 32 rfl) (ty := (.array .byte)) (by decide) rfl rfl (g := (mkF m 53 #[vR a1, vR a2, vI (oN cs.length), vI (oN (cs.length + 16)), vI 1] [(.ref t106), (.ref a1)])) rfl rfl (hb hby d7_53)
 have K112 := Keep.of_wr W112
 have Fw112 := Fld.same W112 C111
 have N112 := Fr.snoc X112 N106 (by omega : @LE.le Nat _ n0 a1)
 have sz3_K112 := K112.1
 have KD114 : Keep h0 h112 [a1] := ((Keep.refl _ _).trans KD108 (allS (Or.inl (List.mem_of_getElem? (i := 0) rfl)) (all0))).trans K112 (allS (Or.inl (List.mem_of_getElem? (i := 0) rfl)) (all0))
 have C115 := E2.keep KD114
 have C116 := Fv2.keep KD114 (ninS (by omega : @Ne Nat a2 a1) (nin0))
 have C117 := Fc2.keep KD114 (ninS (by omega : @Ne Nat a2 a1) (nin0))
 have C118 := V2.keep KD114 (ninS (by omega : @Ne Nat t2 a1) (nin0))
 have C119 := C109.keep K112
 have C120 := Fw105.keep K106 nin0
 have C121 := Fld.other W112 C120 (Or.inr (slot_ne (Or.inl (tw hw 58 rfl)) (Or.inl (tw hw 60 rfl)) (by decide) (t := .byte) (t' := (.array .byte)) (by decide) (by decide)))
 have C122 := Fld.other W105 Bn (Or.inr (slot_ne (Or.inl (tw hw 76 rfl)) (Or.inl (tw hw 58 rfl)) (by decide) (t := .int) (t' := .byte) (by decide) (by decide)))
 have C123 := C122.keep K106 nin0
 have C124 := Fld.other W112 C123 (Or.inr (slot_ne (Or.inl (tw hw 76 rfl)) (Or.inl (tw hw 60 rfl)) (by decide) (t := .int) (t' := (.array .byte)) (by decide) (by decide)))
 have C125 := Fld.other W105 Bm (Or.inr (slot_ne (Or.inl (tw hw 242 rfl)) (Or.inl (tw hw 58 rfl)) (by decide) (t := .boolean) (t' := .byte) (by decide) (by decide)))
 have C126 := C125.keep K106 nin0
 have C127 := Fld.other W112 C126 (Or.inr (slot_ne (Or.inl (tw hw 242 rfl)) (Or.inl (tw hw 60 rfl)) (by decide) (t := .boolean) (t' := (.array .byte)) (by decide) (by decide)))
 have C128 := V106.keep K112 (ninS (by omega : @Ne Nat t106 a1) (nin0))
 have O129 : Old Z n0 T106.heap := O107.keep K106 all0
 have O130 : Old Z n0 h112 := O129.keep K112 (allS (by omega) (all0))
 obtain ⟨cq113, kq113, q113a, q113b, q113c⟩ := isOf hZ e112 C119
 obtain ⟨_, _, ⟨T113, L113, k113, n113⟩, -, X113, ⟨Lc113, hQ113, l113, y113, z113⟩, st113⟩ := X112.virtualBack hx (y := mN27) (z := mN29) hown (mvT hZ (tw hw 61 rfl)) (mvT hZ (tw hw 62 rfl)) (own_nface (a0 := #[]) (y := mN27) (mvT hZ (tw hw 80 rfl)) rfl) (mvT hZ (tw hw 64 rfl)) (mvT hZ (tw hw 65 rfl)) (by decide) (backOf (W := 0) (rmSabU l Z a0 hw [] a1 a2 cs cs0 t2 k2 t106 kb106 h112 n0 O130 S_CS c_CS C115 C116 C117 C118 hn C119 Fw112 C121 C124 C127 C128 (by omega : @LE.le Nat _ n0 a1) (by omega : @LE.le Nat _ n0 t106) (by omega) (by omega) (by omega) (by omega) (by omega)) hZ (tw hw 66 rfl) (tw hw 33 rfl) (by decide) (by decide)) q113a q113c (g := (mkF m 58 #[vR a1, vR a2, vI (oN cs.length), vI (oN (cs.length + 16)), vI 1] [(.ref a2), (.ref a1)])) rfl (by rw [hml]; rfl) (Steps.refl _) (argsL := [(.ref a2)]) (rest := []) (lenOf pd_8 rfl) rfl (wL _) (hb hby d7_58) (fun _ _ => ⟨rfl, e112, (by decide : 1 + 0 ≤ _), (by decide : 40 + 0 ≤ _)⟩)
 dsimp only [Pt.U, Pt.locs, Pt.cells, Pt.slots] at X113 l113 y113 z113 st113 hQ113
 subst l113 y113 z113
 obtain ⟨rfl, N113q, K113, Eb113, Bv113, Bc113, Bn113, Bm113, Vb113⟩ := hQ113
 have sz4_K113 := K113.1
 have N113 := Fr.app N112 N113q
 have KC131 : Keep h0 h105 [a1] := (Keep.refl h0 [a1]).trans K105 (allS (Or.inl (List.mem_of_getElem? (i := 0) rfl)) (all0))
 have KC132 : Keep h0 T106.heap [a1] := KC131.trans K106 (all0)
 have KC133 : Keep h0 h112 [a1] := KC132.trans K112 (allS (Or.inl (List.mem_of_getElem? (i := 0) rfl)) (all0))
 have KC134 : Keep h0 T113.heap [a1] := KC133.trans K113 (allS (Or.inl (List.mem_of_getElem? (i := 0) rfl)) (allS (Or.inr (by omega)) (all0)))
 obtain ⟨fs, hr, hrun, hended, hW, hsame⟩ := X113.leave (v := none) (fun _ => rfl)
 refine ⟨_, _, pre0 _ ?_, hrun, hended, _, _, rfl, ?_, ⟨_, rfl⟩, hW, hsame.mono (by decide) (by decide)⟩
 ·skip
  show SS p e below s₁ m 0 #[vR a1, vR a2, .unset, .unset, .unset] [] _
  refine XS.aloadN X0.here hx rfl (hb hby d7_0) rfl rfl ?_
  show SS p e below s₁ m 1 #[vR a1, vR a2, .unset, .unset, .unset] [(.ref a1)] _
  refine st101 _ ?_
  refine XS.aloadN X101.here hx rfl (hb hby d7_4) rfl rfl ?_
  show SS p e below T101 m 5 #[vR a1, vR a2, .unset, .unset, .unset] [(.ref a2)] _
  refine st102.trans ?_
  refine XS.istoreN X102.here hx rfl (hb hby d7_8) rfl (l' := #[vR a1, vR a2, vI (oN cs.length), .unset, .unset]) rfl ?_
  refine XS.iloadN X102.here hx rfl (hb hby d7_9) rfl ?_
  show SS p e below T102 m 10 #[vR a1, vR a2, vI (oN cs.length), .unset, .unset] [(.int (oN cs.length))] _
  refine X102.ldcInt hx hown (mvT hZ (tw hw 55 rfl)) (g := (mkF m 10 #[vR a1, vR a2, vI (oN cs.length), .unset, .unset] [(.int (oN cs.length))])) rfl (hb hby d7_10) _ ?_
  refine XS.icmpNo X102.here hx rfl (hb hby d7_12) rfl (tlt ((own_lt (j := 2147483631) (by omega) (by decide)).mpr (by omega) : (oN cs.length) < (2147483631 : Int32))).2.1 ?_
  refine XS.iloadN X102.here hx rfl (hb hby d7_15) rfl ?_
  refine XS.bipush X102.here hx rfl (hb hby d7_16) ?_
  refine XS.iadd X102.here hx rfl (hb hby d7_18) rfl ?_
  show SS p e below T102 m 19 #[vR a1, vR a2, vI (oN cs.length), .unset, .unset] [(.int ((oN cs.length) + (16 : Int32)))] _
  rw [hr103]
  refine XS.goto X102.here hx rfl (pc0 := 19) (pc' := 24) rfl (hb hby d7_19) (by decide) (by decide) ?_
  refine XS.istoreN X102.here hx rfl (hb hby d7_24) rfl (l' := #[vR a1, vR a2, vI (oN cs.length), vI (oN (cs.length + 16)), .unset]) rfl ?_
  refine XS.aloadN X102.here hx rfl (hb hby d7_25) rfl rfl ?_
  show SS p e below T102 m 26 #[vR a1, vR a2, vI (oN cs.length), vI (oN (cs.length + 16)), .unset] [(.ref a2)] _
  refine st104.trans ?_
  refine XS.istore X104.here hx rfl (hb hby d7_29) rfl (l' := #[vR a1, vR a2, vI (oN cs.length), vI (oN (cs.length + 16)), vI 1]) rfl ?_
  refine XS.aloadN X104.here hx rfl (hb hby d7_31) rfl rfl ?_
  refine XS.iload X104.here hx rfl (hb hby d7_32) rfl ?_
  show SS p e below T104 m 34 #[vR a1, vR a2, vI (oN cs.length), vI (oN (cs.length + 16)), vI 1] [(.int 1), (.ref a1)] _
  refine st105 _ ?_
  refine XS.aloadN X105.here hx rfl (hb hby d7_37) rfl rfl ?_
  refine XS.iload X105.here hx rfl (hb hby d7_38) rfl ?_
  refine XS.ifYes X105.here hx rfl (pc0 := 40) (pc' := 49) rfl (hb hby d7_40) rfl ((if0 _ _).trans (feq (by decide : ¬ ((1 : Int32) = (0 : Int32)))).2) (by decide) (by decide) ?_
  refine XS.iloadN X105.here hx rfl (hb hby d7_49) rfl ?_
  show SS p e below T105 m 50 #[vR a1, vR a2, vI (oN cs.length), vI (oN (cs.length + 16)), vI 1] [(.int (oN (cs.length + 16))), (.ref a1)] _
  refine st106 _ ?_
  show SS p e below T106 m 53 #[vR a1, vR a2, vI (oN cs.length), vI (oN (cs.length + 16)), vI 1] [(.ref t106), (.ref a1)] _
  refine st112 _ ?_
  refine XS.aloadN X112.here hx rfl (hb hby d7_56) rfl rfl ?_
  refine XS.aloadN X112.here hx rfl (hb hby d7_57) rfl rfl ?_
  show SS p e below T112 m 58 #[vR a1, vR a2, vI (oN cs.length), vI (oN (cs.length + 16)), vI 1] [(.ref a2), (.ref a1)] _
  refine st113.trans ?_
  refine XS.pop X113.here hx rfl (hb hby d7_61) rfl rfl ?_
  show SS p e below T113 m 62 #[vR a1, vR a2, vI (oN cs.length), vI (oN (cs.length + 16)), vI 1] [] _
  exact X113.returnOut hx Bd.returns (hb hby d7_62) hr
 ·show Q_rmIiU Z a1 a2 cs cs0 t2 k2 h0 n0 _ T113.heap _
  exact ⟨_, _, rfl, N113, KC134, (by omega), Eb113, Bv113, Bc113, Bn113, Bm113, Vb113⟩
theorem ef_rmSiU (m : MethodId) (y0 : Addr) (y1 : Addr) : entryFrame m #[(.ref y0), (.ref y1)] 2 = (mkF m 0 #[vR y0, vR y1] []) := by first | (simp [entryFrame, mkF, argsToLocals, Value.category]; done) | rfl
def Q_rmSiU (Z : State) (a1 : Addr) (a2 : Addr) (cs : List Int32) (cs0 : Int32) (t2 : Addr) (k2 : ClassId) (h0 : Heap) (n0 : Nat) (v : Option Value) (h : Heap) (L : List Loc) : Prop := ∃ (v1 : Addr) (kv : ClassId), v = none ∧ Fr n0 L ∧ Keep h0 h [a1] ∧ h0.size ≤ v1 ∧ Exa Z h a1 "java/lang/StringBuilder" ∧ Fld Z h a1 "java/lang/AbstractStringBuilder" "value" "[B" (.ref v1) ∧ Fld Z h a1 "java/lang/AbstractStringBuilder" "coder" "B" (.int 1) ∧ Fld Z h a1 "java/lang/AbstractStringBuilder" "count" "I" (.int (oN cs.length)) ∧ Fld Z h a1 "java/lang/AbstractStringBuilder" "maybeLatin1" "Z" (.int 0) ∧ Arv Z h v1 kv .byte (oN (2 * (cs.length + 16))) (u16 cs) (.int 0)
theorem rmSiU (l : Launch) (Z : State) (a0 : Array Value) (hw : HW a0 Z) (ws : List Jvm.Cond) (a1 : Addr) (a2 : Addr) (cs : List Int32) (cs0 : Int32) (t2 : Addr) (k2 : ClassId) (h0 : Heap) (n0 : Nat) (O0 : Old Z n0 h0) (S_CS : SCS Z cs0) (c_CS : ¬ (cs0 = (0 : Int32))) (E2 : Exa Z h0 a2 "java/lang/String") (Fv2 : Fld Z h0 a2 "java/lang/String" "value" "[B" (.ref t2)) (Fc2 : Fld Z h0 a2 "java/lang/String" "coder" "B" (.int 1)) (V2 : Arv Z h0 t2 k2 .byte (oN (2 * cs.length)) (u16 cs) (.int 0)) (hn : cs.length ≤ 4) (g1 : n0 ≤ a1) (na2 : @Ne Nat a1 a2) (na3 : @Ne Nat a1 t2) (Eb : Exa Z h0 a1 "java/lang/StringBuilder") (Bv : Fld Z h0 a1 "java/lang/AbstractStringBuilder" "value" "[B" .null) (Bc : Fld Z h0 a1 "java/lang/AbstractStringBuilder" "coder" "B" (.int 0)) (Bn : Fld Z h0 a1 "java/lang/AbstractStringBuilder" "count" "I" (.int 0)) (Bm : Fld Z h0 a1 "java/lang/AbstractStringBuilder" "maybeLatin1" "Z" (.int 0)) :
  MF l mN31 jdk_67_method_3_code 2 none ws (Rm 7 1 40 210) Z #[(.ref a1), (.ref a2)] h0 (Q_rmSiU Z a1 a2 cs cs0 t2 k2 h0 n0) := by
 refine MetFree.of_bodySF (plainFor_of_name pn_6) hisR ?_
 intro p e s m args below meth c s₁ Bd hml0 hP hK
 obtain ⟨rfl, hZ, hh⟩ := hP
 have hx := Bd.exec
 have hby := Bd.bytes
 have hml : c.maxLocals = 2 := hml0
 have hown : s.vm.findClass "java/lang/StringBuilder" = some m.cls := findClass_of_methodNamed Bd.named
 have X0 : Stand p l e (Rm 7 1 40 210) s m #[(.ref a1), (.ref a2)] below meth c s₁ [] 0 0 := Stand.of_body Bd
 have e0 : s₁.heap = h0 := by rw [← hh, Bd.state]; rfl
 have N0 := Fr.nil n0
 have hn0 : n0 ≤ h0.size := O0.1 ▸ O0.2.1
 have pre0 : ∀ t, SS p e below s₁ m 0 #[vR a1, vR a2] [] t → SE p e below s₁ m #[(.ref a1), (.ref a2)] 2 t := fun t k => castTop (ef_rmSiU m a1 a2) k
 have lt_a1 : @LT.lt Nat _ a1 h0.size := Eb.lt
 have lt_a2 : @LT.lt Nat _ a2 h0.size := E2.lt
 have lt_t2 : @LT.lt Nat _ t2 h0.size := V2.lt
 obtain ⟨_, _, ⟨T101, L101, k101, n101⟩, -, X101, ⟨Lc101, hQ101, l101, y101, z101⟩, st101⟩ := X0.specialBack hx (y := mN30) rfl hown (mvT hZ (tw hw 37 rfl)) (mvT hZ (tw hw 38 rfl)) (mvT hZ (tw hw 42 rfl)) (by decide) (backOf (W := 0) (rmIiU l Z a0 hw [] a1 a2 cs cs0 t2 k2 h0 n0 O0 S_CS c_CS E2 Fv2 Fc2 V2 hn (by omega : @LE.le Nat _ n0 a1) (by omega) (by omega) Eb Bv Bc Bn Bm) hZ (tw hw 42 rfl) (tw hw 41 rfl) (by decide) (by decide)) (g := (mkF m 2 #[vR a1, vR a2] [(.ref a2), (.ref a1)])) rfl (by rw [hml]; rfl) (Steps.refl _) (a := a1) (argsL := [(.ref a2)]) (rest := []) (lenOf pd_5 rfl) rfl (wL _) (hb hby d6_2) (fun _ _ => ⟨rfl, e0, (by decide : 0 + 1 ≤ _), (by decide : 0 + 40 ≤ _)⟩)
 dsimp only [Pt.U, Pt.locs, Pt.cells, Pt.slots] at X101 l101 y101 z101 st101 hQ101
 subst l101 y101 z101
 obtain ⟨v101, kv101, rfl, N101q, K101, gv101, Eb101, Bv101, Bc101, Bn101, Bm101, Vb101⟩ := hQ101
 have ltv101 : @LT.lt Nat _ v101 T101.heap.size := Vb101.lt
 have sz1_K101 := K101.1
 have N101 := Fr.app N0 N101q
 have KC102 : Keep h0 T101.heap [a1] := (Keep.refl h0 [a1]).trans K101 (allS (Or.inl (List.mem_of_getElem? (i := 0) rfl)) (all0))
 obtain ⟨fs, hr, hrun, hended, hW, hsame⟩ := X101.leave (v := none) (fun _ => rfl)
 refine ⟨_, _, pre0 _ ?_, hrun, hended, _, _, rfl, ?_, ⟨_, rfl⟩, hW, hsame.mono (by decide) (by decide)⟩
 ·skip
  show SS p e below s₁ m 0 #[vR a1, vR a2] [] _
  refine XS.aloadN X0.here hx rfl (hb hby d6_0) rfl rfl ?_
  refine XS.aloadN X0.here hx rfl (hb hby d6_1) rfl rfl ?_
  show SS p e below s₁ m 2 #[vR a1, vR a2] [(.ref a2), (.ref a1)] _
  refine st101.trans ?_
  show SS p e below T101 m 5 #[vR a1, vR a2] [] _
  exact X101.returnOut hx Bd.returns (hb hby d6_5) hr
 ·show Q_rmSiU Z a1 a2 cs cs0 t2 k2 h0 n0 _ T101.heap _
  exact ⟨_, _, rfl, N101, KC102, (by omega), Eb101, Bv101, Bc101, Bn101, Bm101, Vb101⟩
theorem d52_0 : DK cD32 0 (.aload_n 0) 1 := by decide +kernel
theorem d52_1 : DK cD32 1 (.arraylength) 1 := by decide +kernel
theorem d52_2 : DK cD32 2 (.iconst 1) 1 := by decide +kernel
theorem d52_3 : DK cD32 3 (.ishr) 1 := by decide +kernel
theorem d52_4 : DK cD32 4 (.ireturn) 1 := by decide +kernel
theorem ef_rmUl (m : MethodId) (y0 : Addr) : entryFrame m #[(.ref y0)] 1 = (mkF m 0 #[vR y0] []) := by first | (simp [entryFrame, mkF, argsToLocals, Value.category]; done) | rfl
def Q_rmUl (Z : State) (a1 : Addr) (mm : Nat) (k1 : ClassId) (vs : List Value) (h0 : Heap) (n0 : Nat) (v : Option Value) (h : Heap) (L : List Loc) : Prop := v = some (.int (oN mm)) ∧ Fr n0 L ∧ h = h0
theorem rmUl (l : Launch) (Z : State) (a0 : Array Value) (hw : HW a0 Z) (ws : List Jvm.Cond) (a1 : Addr) (mm : Nat) (k1 : ClassId) (vs : List Value) (h0 : Heap) (n0 : Nat) (O0 : Old Z n0 h0) (V1 : Arv Z h0 a1 k1 .byte (oN (2 * mm)) vs (.int 0)) (hm : mm < 2 ^ 29) :
  MF l mN32 jdk_52_method_6_code 1 (some .int) ws (Rm 0 0 0 0) Z #[(.ref a1)] h0 (Q_rmUl Z a1 mm k1 vs h0 n0) := by
 refine MetFree.of_bodySF (plainFor_of_name pn_29) hisR ?_
 intro p e s m args below meth c s₁ Bd hml0 hP hK
 obtain ⟨rfl, hZ, hh⟩ := hP
 have hx := Bd.exec
 have hby := Bd.bytes
 have hml : c.maxLocals = 1 := hml0
 have hown : s.vm.findClass "java/lang/StringUTF16" = some m.cls := findClass_of_methodNamed Bd.named
 have X0 : Stand p l e (Rm 0 0 0 0) s m #[(.ref a1)] below meth c s₁ [] 0 0 := Stand.of_body Bd
 have e0 : s₁.heap = h0 := by rw [← hh, Bd.state]; rfl
 have N0 := Fr.nil n0
 have hn0 : n0 ≤ h0.size := O0.1 ▸ O0.2.1
 have pre0 : ∀ t, SS p e below s₁ m 0 #[vR a1] [] t → SE p e below s₁ m #[(.ref a1)] 1 t := fun t k => castTop (ef_rmUl m a1) k
 obtain ⟨cl101, Ar101, q101, S101, Nn101, H101, G101⟩ := id V1
 obtain ⟨fs, hr, hrun, hended, hW, hsame⟩ := X0.leave (v := some (.int ((oN (2 * mm)) >>> ((1 : Int32) &&& 31)))) (nvr Bd.returns)
 refine ⟨_, _, pre0 _ ?_, hrun, hended, _, _, rfl, ?_, ⟨_, rfl⟩, hW, hsame.mono (by decide) (by decide)⟩
 ·skip
  show SS p e below s₁ m 0 #[vR a1] [] _
  refine XS.aloadN X0.here hx rfl (hb hby d52_0) rfl rfl ?_
  show SS p e below s₁ m 1 #[vR a1] [(.ref a1)] _
  refine X0.arraylength hx (by rw [e0]; exact Ar101.1) (State.isArrayOf_alike hZ.alike Ar101.2.1) (g := (mkF m 1 #[vR a1] [(.ref a1)])) rfl rfl (hb hby d52_1) _ ?_
  rw [len_of S101 Nn101]
  refine XS.iconst X0.here hx rfl (hb hby d52_2) ?_
  show SS p e below s₁ m 3 #[vR a1] [(.int 1), (.int (oN (2 * mm)))] _
  refine XS.ishr X0.here hx rfl (hb hby d52_3) rfl ?_
  show SS p e below s₁ m 4 #[vR a1] [(.int ((oN (2 * mm)) >>> ((1 : Int32) &&& 31)))] _
  exact retI X0 hx Bd.returns (hb hby d52_4) hr
 ·show Q_rmUl Z a1 mm k1 vs h0 n0 _ s₁.heap _
  rw [e0]
  exact ⟨congrArg (fun z => some (Value.int z)) (own_shr1 (by omega)), N0, rfl⟩
theorem d51_0 : DK cD33 0 (.iload_n 0) 1 := by decide +kernel
theorem d51_1 : DK cD33 1 (.aload_n 1) 1 := by decide +kernel
theorem d51_2 : DK cD33 2 (.invokestatic 48) 3 := by decide +kernel
theorem d51_5 : DK cD33 5 (.invokestatic 414) 3 := by decide +kernel
theorem d51_8 : DK cD33 8 (.return_) 1 := by decide +kernel
theorem pd_37 : parseMethodDescriptor "([B)I" = some ⟨[(.array .byte)], some .int⟩ := by decide +kernel
theorem ef_rmUci (m : MethodId) (y0 : Int32) (y1 : Addr) : entryFrame m #[(.int y0), (.ref y1)] 2 = (mkF m 0 #[vI y0, vR y1] []) := by first | (simp [entryFrame, mkF, argsToLocals, Value.category]; done) | rfl
def Q_rmUci (Z : State) (a2 : Addr) (i : Nat) (mm : Nat) (k1 : ClassId) (vs : List Value) (fm : Value) (h0 : Heap) (n0 : Nat) (v : Option Value) (h : Heap) (L : List Loc) : Prop := v = none ∧ Fr n0 L ∧ h = h0
theorem rmUci (l : Launch) (Z : State) (a0 : Array Value) (hw : HW a0 Z) (ws : List Jvm.Cond) (a2 : Addr) (i : Nat) (mm : Nat) (k1 : ClassId) (vs : List Value) (fm : Value) (h0 : Heap) (n0 : Nat) (O0 : Old Z n0 h0) (S_FM : SFM Z fm) (r_FM : fm.isRef = true) (V1 : Arv Z h0 a2 k1 .byte (oN (2 * mm)) vs (.int 0)) (hm : mm < 2 ^ 29) (hi : i < mm) :
  MF l mN33 jdk_52_method_91_code 2 none ws (Rm 2 0 0 40) Z #[(.int (oN i)), (.ref a2)] h0 (Q_rmUci Z a2 i mm k1 vs fm h0 n0) := by
 refine MetFree.of_bodySF (plainFor_of_name pn_29) hisR ?_
 intro p e s m args below meth c s₁ Bd hml0 hP hK
 obtain ⟨rfl, hZ, hh⟩ := hP
 have hx := Bd.exec
 have hby := Bd.bytes
 have hml : c.maxLocals = 2 := hml0
 have hown : s.vm.findClass "java/lang/StringUTF16" = some m.cls := findClass_of_methodNamed Bd.named
 have X0 : Stand p l e (Rm 2 0 0 40) s m #[(.int (oN i)), (.ref a2)] below meth c s₁ [] 0 0 := Stand.of_body Bd
 have e0 : s₁.heap = h0 := by rw [← hh, Bd.state]; rfl
 have N0 := Fr.nil n0
 have hn0 : n0 ≤ h0.size := O0.1 ▸ O0.2.1
 have pre0 : ∀ t, SS p e below s₁ m 0 #[vI (oN i), vR a2] [] t → SE p e below s₁ m #[(.int (oN i)), (.ref a2)] 2 t := fun t k => castTop (ef_rmUci m ((oN i)) a2) k
 obtain ⟨_, _, ⟨T101, L101, k101, n101⟩, -, X101, ⟨Lc101, hQ101, l101, y101, z101⟩, st101⟩ := Jvm.LawKit.callS X0 hx (y := mN32) hown (mvT hZ (tw hw 249 rfl)) (mvT hZ (tw hw 250 rfl)) (mvT hZ (tw hw 156 rfl)) (mvT hZ (tw hw 251 rfl)) (by decide) (backOf (W := 1) (rmUl l Z a0 hw [] a2 mm k1 vs h0 n0 O0 V1 (by omega)) hZ (tw hw 251 rfl) (tw hw 156 rfl) (by decide) (by decide)) (g := (mkF m 2 #[vI (oN i), vR a2] [(.ref a2), (.int (oN i))])) rfl (by rw [hml]; rfl) (argsL := [(.ref a2)]) (rest := [(.int (oN i))]) (lenOf pd_37 rfl) rfl (wL _) (hb hby d51_2) (fun _ _ => ⟨rfl, e0, (by decide : 0 + 0 ≤ _), (by decide : 0 + 0 ≤ _)⟩)
 dsimp only [Pt.U, Pt.locs, Pt.cells, Pt.slots] at X101 l101 y101 z101 st101 hQ101
 subst l101 y101 z101
 obtain ⟨rfl, N101q, H101⟩ := hQ101
 have N101 := Fr.app N0 N101q
 obtain ⟨_, _, ⟨T102, L102, k102, n102⟩, -, X102, ⟨Lc102, hQ102, l102, y102, z102⟩, st102⟩ := Jvm.LawKit.callS X101 hx (y := mN18) hown (mvT hZ (tw hw 252 rfl)) (mvT hZ (tw hw 175 rfl)) (mvT hZ (tw hw 8 rfl)) (mvT hZ (tw hw 176 rfl)) (by decide) (backOf (W := 0) (rmCi l Z a0 hw [] (oN i) (oN mm) fm h0 n0 O0 S_FM r_FM (own_nn (by omega)) ((own_lt (by omega) (by omega)).mpr (by omega))) hZ (tw hw 176 rfl) (tw hw 8 rfl) (by decide) (by decide)) (g := (mkF m 5 #[vI (oN i), vR a2] [(.int (oN mm)), (.int (oN i))])) rfl (by rw [hml]; rfl) (argsL := [(.int (oN i)), (.int (oN mm))]) (rest := []) (lenOf pd_20 rfl) rfl (wL _) (hb hby d51_5) (fun _ _ => ⟨rfl, H101, (by decide : 0 + 0 ≤ _), (by decide : 0 + 0 ≤ _)⟩)
 dsimp only [Pt.U, Pt.locs, Pt.cells, Pt.slots] at X102 l102 y102 z102 st102 hQ102
 subst l102 y102 z102
 obtain ⟨rfl, N102q, H102⟩ := hQ102
 have N102 := Fr.app N101 N102q
 obtain ⟨fs, hr, hrun, hended, hW, hsame⟩ := X102.leave (v := none) (fun _ => rfl)
 refine ⟨_, _, pre0 _ ?_, hrun, hended, _, _, rfl, ?_, ⟨_, rfl⟩, hW, hsame.mono (by decide) (by decide)⟩
 ·skip
  show SS p e below s₁ m 0 #[vI (oN i), vR a2] [] _
  refine XS.iloadN X0.here hx rfl (hb hby d51_0) rfl ?_
  refine XS.aloadN X0.here hx rfl (hb hby d51_1) rfl rfl ?_
  show SS p e below s₁ m 2 #[vI (oN i), vR a2] [(.ref a2), (.int (oN i))] _
  refine st101 _ ?_
  show SS p e below T101 m 5 #[vI (oN i), vR a2] [(.int (oN mm)), (.int (oN i))] _
  refine st102 _ ?_
  show SS p e below T102 m 8 #[vI (oN i), vR a2] [] _
  exact X102.returnOut hx Bd.returns (hb hby d51_8) hr
 ·show Q_rmUci Z a2 i mm k1 vs fm h0 n0 _ T102.heap _
  rw [H102]
  exact ⟨rfl, N102, rfl⟩
theorem d53_0 : DK cD34 0 (.iload_n 1) 1 := by decide +kernel
theorem d53_1 : DK cD34 1 (.aload_n 0) 1 := by decide +kernel
theorem d53_2 : DK cD34 2 (.invokestatic 67) 3 := by decide +kernel
theorem d53_5 : DK cD34 5 (.aload_n 0) 1 := by decide +kernel
theorem d53_6 : DK cD34 6 (.iload_n 1) 1 := by decide +kernel
theorem d53_7 : DK cD34 7 (.iload_n 2) 1 := by decide +kernel
theorem d53_8 : DK cD34 8 (.invokestatic 111) 3 := by decide +kernel
theorem d53_11 : DK cD34 11 (.return_) 1 := by decide +kernel
theorem pd_36 : parseMethodDescriptor "(I[B)V" = some ⟨[.int, (.array .byte)], none⟩ := by decide +kernel
theorem ef_rmPsb (m : MethodId) (y0 : Addr) (y1 : Int32) : entryFrame m #[(.ref y0), (.int y1), (.int 63)] 3 = (mkF m 0 #[vR y0, vI y1, vI 63] []) := by first | (simp [entryFrame, mkF, argsToLocals, Value.category]; done) | rfl
def Q_rmPsb (Z : State) (a1 : Addr) (i : Nat) (cs : List Int32) (mm : Nat) (k1 : ClassId) (fm : Value) (h0 : Heap) (n0 : Nat) (v : Option Value) (h : Heap) (L : List Loc) : Prop := v = none ∧ Fr n0 L ∧ Keep h0 h [a1] ∧ Arv Z h a1 k1 .byte (oN (2 * mm)) (u16 (cs.set i (63 : Int32))) (.int 0)
theorem rmPsb (l : Launch) (Z : State) (a0 : Array Value) (hw : HW a0 Z) (ws : List Jvm.Cond) (a1 : Addr) (i : Nat) (cs : List Int32) (mm : Nat) (k1 : ClassId) (fm : Value) (h0 : Heap) (n0 : Nat) (O0 : Old Z n0 h0) (S_FM : SFM Z fm) (r_FM : fm.isRef = true) (S_AD : SAD Z) (S_HI : SHI Z) (S_LO : SLO Z) (g1 : n0 ≤ a1) (V1 : Arv Z h0 a1 k1 .byte (oN (2 * mm)) (u16 cs) (.int 0)) (hm : mm < 2 ^ 29) (hi : i < cs.length) (hcm : cs.length < mm) :
  MF l mN34 jdk_52_method_71_code 3 none ws (Rm 3 0 0 60) Z #[(.ref a1), (.int (oN i)), (.int 63)] h0 (Q_rmPsb Z a1 i cs mm k1 fm h0 n0) := by
 refine MetFree.of_bodySF (plainFor_of_name pn_29) hisR ?_
 intro p e s m args below meth c s₁ Bd hml0 hP hK
 obtain ⟨rfl, hZ, hh⟩ := hP
 have hx := Bd.exec
 have hby := Bd.bytes
 have hml : c.maxLocals = 3 := hml0
 have hown : s.vm.findClass "java/lang/StringUTF16" = some m.cls := findClass_of_methodNamed Bd.named
 have X0 : Stand p l e (Rm 3 0 0 60) s m #[(.ref a1), (.int (oN i)), (.int 63)] below meth c s₁ [] 0 0 := Stand.of_body Bd
 have e0 : s₁.heap = h0 := by rw [← hh, Bd.state]; rfl
 have N0 := Fr.nil n0
 have hn0 : n0 ≤ h0.size := O0.1 ▸ O0.2.1
 have pre0 : ∀ t, SS p e below s₁ m 0 #[vR a1, vI (oN i), vI 63] [] t → SE p e below s₁ m #[(.ref a1), (.int (oN i)), (.int 63)] 3 t := fun t k => castTop (ef_rmPsb m a1 ((oN i))) k
 have lt_a1 : @LT.lt Nat _ a1 h0.size := V1.lt
 obtain ⟨_, _, ⟨T101, L101, k101, n101⟩, -, X101, ⟨Lc101, hQ101, l101, y101, z101⟩, st101⟩ := Jvm.LawKit.callS X0 hx (y := mN33) hown (mvT hZ (tw hw 246 rfl)) (mvT hZ (tw hw 247 rfl)) (mvT hZ (tw hw 156 rfl)) (mvT hZ (tw hw 248 rfl)) (by decide) (backOf (W := 0) (rmUci l Z a0 hw [] a1 i mm k1 (u16 cs) fm h0 n0 O0 S_FM r_FM V1 (by omega) (by omega)) hZ (tw hw 248 rfl) (tw hw 156 rfl) (by decide) (by decide)) (g := (mkF m 2 #[vR a1, vI (oN i), vI 63] [(.ref a1), (.int (oN i))])) rfl (by rw [hml]; rfl) (argsL := [(.int (oN i)), (.ref a1)]) (rest := []) (lenOf pd_36 rfl) rfl (wL _) (hb hby d53_2) (fun _ _ => ⟨rfl, e0, (by decide : 0 + 0 ≤ _), (by decide : 0 + 0 ≤ _)⟩)
 dsimp only [Pt.U, Pt.locs, Pt.cells, Pt.slots] at X101 l101 y101 z101 st101 hQ101
 subst l101 y101 z101
 obtain ⟨rfl, N101q, H101⟩ := hQ101
 have N101 := Fr.app N0 N101q
 obtain ⟨_, _, ⟨T102, L102, k102, n102⟩, -, X102, ⟨Lc102, hQ102, l102, y102, z102⟩, st102⟩ := Jvm.LawKit.callS X101 hx (y := mN1) hown (mvT hZ (tw hw 230 rfl)) (mvT hZ (tw hw 231 rfl)) (mvT hZ (tw hw 156 rfl)) (mvT hZ (tw hw 232 rfl)) (by decide) (backOf (W := 0) (rmPutChar l Z a0 hw [] a1 (63 : Int32) i k1 (oN (2 * mm)) (u16 cs) h0 n0 O0 S_AD S_HI S_LO g1 V1 (by omega) ((own_lt (by omega) (by omega)).mpr (by omega)) ((own_lt (by omega) (by omega)).mpr (by omega)) (by rw [u16_len]; omega) (by rw [u16_len]; omega)) hZ (tw hw 232 rfl) (tw hw 156 rfl) (by decide) (by decide)) (g := (mkF m 8 #[vR a1, vI (oN i), vI 63] [(.int 63), (.int (oN i)), (.ref a1)])) rfl (by rw [hml]; rfl) (argsL := [(.ref a1), (.int (oN i)), (.int 63)]) (rest := []) (lenOf pd_35 rfl) rfl (wL _) (hb hby d53_8) (fun _ _ => ⟨rfl, H101, (by decide : 0 + 0 ≤ _), (by decide : 0 + 0 ≤ _)⟩)
 dsimp only [Pt.U, Pt.locs, Pt.cells, Pt.slots] at X102 l102 y102 z102 st102 hQ102
 subst l102 y102 z102
 obtain ⟨rfl, N102q, K102, V102⟩ := hQ102
 have sz1_K102 := K102.1
 rw [u16_set cs hi (63 : Int32)] at V102
 have N102 := Fr.app N101 N102q
 have KC103 : Keep h0 T102.heap [a1] := (Keep.refl h0 [a1]).trans K102 (allS (Or.inl (List.mem_of_getElem? (i := 0) rfl)) (all0))
 obtain ⟨fs, hr, hrun, hended, hW, hsame⟩ := X102.leave (v := none) (fun _ => rfl)
 refine ⟨_, _, pre0 _ ?_, hrun, hended, _, _, rfl, ?_, ⟨_, rfl⟩, hW, hsame.mono (by decide) (by decide)⟩
 ·skip
  show SS p e below s₁ m 0 #[vR a1, vI (oN i), vI 63] [] _
  refine XS.iloadN X0.here hx rfl (hb hby d53_0) rfl ?_
  refine XS.aloadN X0.here hx rfl (hb hby d53_1) rfl rfl ?_
  show SS p e below s₁ m 2 #[vR a1, vI (oN i), vI 63] [(.ref a1), (.int (oN i))] _
  refine st101 _ ?_
  refine XS.aloadN X101.here hx rfl (hb hby d53_5) rfl rfl ?_
  refine XS.iloadN X101.here hx rfl (hb hby d53_6) rfl ?_
  refine XS.iloadN X101.here hx rfl (hb hby d53_7) rfl ?_
  show SS p e below T101 m 8 #[vR a1, vI (oN i), vI 63] [(.int 63), (.int (oN i)), (.ref a1)] _
  refine st102 _ ?_
  show SS p e below T102 m 11 #[vR a1, vI (oN i), vI 63] [] _
  exact X102.returnOut hx Bd.returns (hb hby d53_11) hr
 ·show Q_rmPsb Z a1 i cs mm k1 fm h0 n0 _ T102.heap _
  exact ⟨rfl, N102, KC103, V102⟩
theorem d37_0 : DK cD35 0 (.iload_n 0) 1 := by decide +kernel
theorem d37_1 : DK cD35 1 (.sipush 159) 3 := by decide +kernel
theorem d37_4 : DK cD35 4 (.if_icmp .gt 19) 3 := by decide +kernel
theorem d37_7 : DK cD35 7 (.iload_n 0) 1 := by decide +kernel
theorem d37_8 : DK cD35 8 (.bipush 127) 2 := by decide +kernel
theorem d37_10 : DK cD35 10 (.if_icmp .ge 9) 3 := by decide +kernel
theorem d37_13 : DK cD35 13 (.iload_n 0) 1 := by decide +kernel
theorem d37_14 : DK cD35 14 (.iconst 5) 1 := by decide +kernel
theorem d37_15 : DK cD35 15 (.iushr) 1 := by decide +kernel
theorem d37_16 : DK cD35 16 (.ifCond .ne 7) 3 := by decide +kernel
theorem d37_19 : DK cD35 19 (.iconst 1) 1 := by decide +kernel
theorem d37_20 : DK cD35 20 (.goto 4) 3 := by decide +kernel
theorem d37_23 : DK cD35 23 (.iconst 0) 1 := by decide +kernel
theorem d37_24 : DK cD35 24 (.ireturn) 1 := by decide +kernel
theorem pn_36 : plainName "java/lang/Character" = true := by first | (simp [plainName, overriddenIn]; done) | decide +kernel
theorem ef_rmIsoI (m : MethodId) (y0 : Int32) : entryFrame m #[(.int y0)] 1 = (mkF m 0 #[vI y0] []) := by first | (simp [entryFrame, mkF, argsToLocals, Value.category]; done) | rfl
def Q_rmIsoI (Z : State) (p1 : Int32) (h0 : Heap) (n0 : Nat) (v : Option Value) (h : Heap) (L : List Loc) : Prop := v = some (.int (isoC p1)) ∧ Fr n0 L ∧ h = h0
theorem rmIsoI (l : Launch) (Z : State) (a0 : Array Value) (hw : HW a0 Z) (ws : List Jvm.Cond) (p1 : Int32) (h0 : Heap) (n0 : Nat) (O0 : Old Z n0 h0) :
  MF l mN35 jdk_89_method_89_code 1 (some .boolean) ws (Rm 0 0 0 0) Z #[(.int p1)] h0 (Q_rmIsoI Z p1 h0 n0) := by
 refine MetFree.of_bodySF (plainFor_of_name pn_36) hisR ?_
 intro p e s m args below meth c s₁ Bd hml0 hP hK
 obtain ⟨rfl, hZ, hh⟩ := hP
 have hx := Bd.exec
 have hby := Bd.bytes
 have hml : c.maxLocals = 1 := hml0
 have hown : s.vm.findClass "java/lang/Character" = some m.cls := findClass_of_methodNamed Bd.named
 have X0 : Stand p l e (Rm 0 0 0 0) s m #[(.int p1)] below meth c s₁ [] 0 0 := Stand.of_body Bd
 have e0 : s₁.heap = h0 := by rw [← hh, Bd.state]; rfl
 have N0 := Fr.nil n0
 have hn0 : n0 ≤ h0.size := O0.1 ▸ O0.2.1
 have pre0 : ∀ t, SS p e below s₁ m 0 #[vI p1] [] t → SE p e below s₁ m #[(.int p1)] 1 t := fun t k => castTop (ef_rmIsoI m p1) k
 have pre102 : ∀ t, SS p e below s₁ m 4 #[vI p1] [(.int 159), (.int p1)] t → SE p e below s₁ m #[(.int p1)] 1 t := by
  intro t kt
  refine pre0 _ ?_
  show SS p e below s₁ m 0 #[vI p1] [] _
  refine XS.iloadN X0.here hx rfl (hb hby d37_0) rfl ?_
  refine XS.sipush X0.here hx rfl (hb hby d37_1) ?_
  exact kt
 by_cases hc101 : (159 : Int32) < p1
 ·skip
  obtain ⟨fs, hr, hrun, hended, hW, hsame⟩ := X0.leave (v := some (.int 0)) (nvr Bd.returns)
  refine ⟨_, _, pre102 _ ?_, hrun, hended, _, _, rfl, ?_, ⟨_, rfl⟩, hW, hsame.mono (by decide) (by decide)⟩
  ·skip
   show SS p e below s₁ m 4 #[vI p1] [(.int 159), (.int p1)] _
   refine XS.icmpYes X0.here hx rfl (pc0 := 4) (pc' := 23) rfl (hb hby d37_4) rfl (tlt hc101).2.2.1 (by decide) (by decide) ?_
   refine XS.iconst X0.here hx rfl (hb hby d37_23) ?_
   show SS p e below s₁ m 24 #[vI p1] [(.int 0)] _
   exact retN X0 hx (t := .boolean) Bd.returns (by simp) (hb hby d37_24) hr
  ·show Q_rmIsoI Z p1 h0 n0 _ s₁.heap _
   rw [e0]
   exact ⟨by rw [isoC, if_pos hc101], N0, rfl⟩
 ·skip
  have pre104 : ∀ t, SS p e below s₁ m 10 #[vI p1] [(.int 127), (.int p1)] t → SE p e below s₁ m #[(.int p1)] 1 t := by
   intro t kt
   refine pre102 _ ?_
   show SS p e below s₁ m 4 #[vI p1] [(.int 159), (.int p1)] _
   refine XS.icmpNo X0.here hx rfl (hb hby d37_4) rfl (flt hc101).2.2.1 ?_
   refine XS.iloadN X0.here hx rfl (hb hby d37_7) rfl ?_
   refine XS.bipush X0.here hx rfl (hb hby d37_8) ?_
   exact kt
  by_cases hc103 : p1 < (127 : Int32)
  ·skip
   have pre106 : ∀ t, SS p e below s₁ m 16 #[vI p1] [(.int ((p1.toUInt32 >>> ((5 : Int32) &&& 31).toUInt32).toInt32))] t → SE p e below s₁ m #[(.int p1)] 1 t := by
    intro t kt
    refine pre104 _ ?_
    show SS p e below s₁ m 10 #[vI p1] [(.int 127), (.int p1)] _
    refine XS.icmpNo X0.here hx rfl (hb hby d37_10) rfl (tlt hc103).2.1 ?_
    refine XS.iloadN X0.here hx rfl (hb hby d37_13) rfl ?_
    refine XS.iconst X0.here hx rfl (hb hby d37_14) ?_
    show SS p e below s₁ m 15 #[vI p1] [(.int 5), (.int p1)] _
    refine XS.iushr X0.here hx rfl (hb hby d37_15) rfl ?_
    exact kt
   by_cases hc105 : ((p1.toUInt32 >>> ((5 : Int32) &&& 31).toUInt32).toInt32) = (0 : Int32)
   ·skip
    obtain ⟨fs, hr, hrun, hended, hW, hsame⟩ := X0.leave (v := some (.int 1)) (nvr Bd.returns)
    refine ⟨_, _, pre106 _ ?_, hrun, hended, _, _, rfl, ?_, ⟨_, rfl⟩, hW, hsame.mono (by decide) (by decide)⟩
    ·skip
     show SS p e below s₁ m 16 #[vI p1] [(.int ((p1.toUInt32 >>> ((5 : Int32) &&& 31).toUInt32).toInt32))] _
     refine XS.ifNo X0.here hx rfl (hb hby d37_16) rfl ((if0 _ _).trans (teq hc105).2) ?_
     refine XS.iconst X0.here hx rfl (hb hby d37_19) ?_
     refine XS.goto X0.here hx rfl (pc0 := 20) (pc' := 24) rfl (hb hby d37_20) (by decide) (by decide) ?_
     show SS p e below s₁ m 24 #[vI p1] [(.int 1)] _
     exact retN X0 hx (t := .boolean) Bd.returns (by simp) (hb hby d37_24) hr
    ·show Q_rmIsoI Z p1 h0 n0 _ s₁.heap _
     rw [e0]
     exact ⟨by rw [isoC, if_neg hc101, if_neg (fun q => q hc103), if_pos hc105], N0, rfl⟩
   ·skip
    obtain ⟨fs, hr, hrun, hended, hW, hsame⟩ := X0.leave (v := some (.int 0)) (nvr Bd.returns)
    refine ⟨_, _, pre106 _ ?_, hrun, hended, _, _, rfl, ?_, ⟨_, rfl⟩, hW, hsame.mono (by decide) (by decide)⟩
    ·skip
     show SS p e below s₁ m 16 #[vI p1] [(.int ((p1.toUInt32 >>> ((5 : Int32) &&& 31).toUInt32).toInt32))] _
     refine XS.ifYes X0.here hx rfl (pc0 := 16) (pc' := 23) rfl (hb hby d37_16) rfl ((if0 _ _).trans (feq hc105).2) (by decide) (by decide) ?_
     refine XS.iconst X0.here hx rfl (hb hby d37_23) ?_
     show SS p e below s₁ m 24 #[vI p1] [(.int 0)] _
     exact retN X0 hx (t := .boolean) Bd.returns (by simp) (hb hby d37_24) hr
    ·show Q_rmIsoI Z p1 h0 n0 _ s₁.heap _
     rw [e0]
     exact ⟨by rw [isoC, if_neg hc101, if_neg (fun q => q hc103), if_neg hc105], N0, rfl⟩
  ·skip
   obtain ⟨fs, hr, hrun, hended, hW, hsame⟩ := X0.leave (v := some (.int 1)) (nvr Bd.returns)
   refine ⟨_, _, pre104 _ ?_, hrun, hended, _, _, rfl, ?_, ⟨_, rfl⟩, hW, hsame.mono (by decide) (by decide)⟩
   ·skip
    show SS p e below s₁ m 10 #[vI p1] [(.int 127), (.int p1)] _
    refine XS.icmpYes X0.here hx rfl (pc0 := 10) (pc' := 19) rfl (hb hby d37_10) rfl (flt hc103).2.1 (by decide) (by decide) ?_
    refine XS.iconst X0.here hx rfl (hb hby d37_19) ?_
    refine XS.goto X0.here hx rfl (pc0 := 20) (pc' := 24) rfl (hb hby d37_20) (by decide) (by decide) ?_
    show SS p e below s₁ m 24 #[vI p1] [(.int 1)] _
    exact retN X0 hx (t := .boolean) Bd.returns (by simp) (hb hby d37_24) hr
   ·show Q_rmIsoI Z p1 h0 n0 _ s₁.heap _
    rw [e0]
    exact ⟨by rw [isoC, if_neg hc101, if_pos hc103], N0, rfl⟩
theorem d36_0 : DK cD36 0 (.iload_n 0) 1 := by decide +kernel
theorem d36_1 : DK cD36 1 (.invokestatic 266) 3 := by decide +kernel
theorem d36_4 : DK cD36 4 (.ireturn) 1 := by decide +kernel
theorem pd_29 : parseMethodDescriptor "(I)Z" = some ⟨[.int], some .boolean⟩ := by decide +kernel
theorem ef_rmIsoC (m : MethodId) (y0 : Int32) : entryFrame m #[(.int y0)] 1 = (mkF m 0 #[vI y0] []) := by first | (simp [entryFrame, mkF, argsToLocals, Value.category]; done) | rfl
def Q_rmIsoC (Z : State) (p1 : Int32) (h0 : Heap) (n0 : Nat) (v : Option Value) (h : Heap) (L : List Loc) : Prop := v = some (.int (isoC p1)) ∧ Fr n0 L ∧ h = h0
theorem rmIsoC (l : Launch) (Z : State) (a0 : Array Value) (hw : HW a0 Z) (ws : List Jvm.Cond) (p1 : Int32) (h0 : Heap) (n0 : Nat) (O0 : Old Z n0 h0) :
  MF l mN36 jdk_89_method_88_code 1 (some .boolean) ws (Rm 1 0 0 20) Z #[(.int p1)] h0 (Q_rmIsoC Z p1 h0 n0) := by
 refine MetFree.of_bodySF (plainFor_of_name pn_36) hisR ?_
 intro p e s m args below meth c s₁ Bd hml0 hP hK
 obtain ⟨rfl, hZ, hh⟩ := hP
 have hx := Bd.exec
 have hby := Bd.bytes
 have hml : c.maxLocals = 1 := hml0
 have hown : s.vm.findClass "java/lang/Character" = some m.cls := findClass_of_methodNamed Bd.named
 have X0 : Stand p l e (Rm 1 0 0 20) s m #[(.int p1)] below meth c s₁ [] 0 0 := Stand.of_body Bd
 have e0 : s₁.heap = h0 := by rw [← hh, Bd.state]; rfl
 have N0 := Fr.nil n0
 have hn0 : n0 ≤ h0.size := O0.1 ▸ O0.2.1
 have pre0 : ∀ t, SS p e below s₁ m 0 #[vI p1] [] t → SE p e below s₁ m #[(.int p1)] 1 t := fun t k => castTop (ef_rmIsoC m p1) k
 obtain ⟨_, _, ⟨T101, L101, k101, n101⟩, -, X101, ⟨Lc101, hQ101, l101, y101, z101⟩, st101⟩ := Jvm.LawKit.callS X0 hx (y := mN35) hown (mvT hZ (tw hw 186 rfl)) (mvT hZ (tw hw 187 rfl)) (mvT hZ (tw hw 184 rfl)) (mvT hZ (tw hw 188 rfl)) (by decide) (backOf (W := 0) (rmIsoI l Z a0 hw [] p1  h0 n0 O0 ) hZ (tw hw 188 rfl) (tw hw 184 rfl) (by decide) (by decide)) (g := (mkF m 1 #[vI p1] [(.int p1)])) rfl (by rw [hml]; rfl) (argsL := [(.int p1)]) (rest := []) (lenOf pd_29 rfl) rfl (wL _) (hb hby d36_1) (fun _ _ => ⟨rfl, e0, (by decide : 0 + 0 ≤ _), (by decide : 0 + 0 ≤ _)⟩)
 dsimp only [Pt.U, Pt.locs, Pt.cells, Pt.slots] at X101 l101 y101 z101 st101 hQ101
 subst l101 y101 z101
 obtain ⟨rfl, N101q, H101⟩ := hQ101
 have N101 := Fr.app N0 N101q
 obtain ⟨fs, hr, hrun, hended, hW, hsame⟩ := X101.leave (v := some (.int (nar .boolean (isoC p1)))) (nvr Bd.returns)
 refine ⟨_, _, pre0 _ ?_, hrun, hended, _, _, rfl, ?_, ⟨_, rfl⟩, hW, hsame.mono (by decide) (by decide)⟩
 ·skip
  show SS p e below s₁ m 0 #[vI p1] [] _
  refine XS.iloadN X0.here hx rfl (hb hby d36_0) rfl ?_
  show SS p e below s₁ m 1 #[vI p1] [(.int p1)] _
  refine st101 _ ?_
  show SS p e below T101 m 4 #[vI p1] [(.int (isoC p1))] _
  exact retN X101 hx (t := .boolean) Bd.returns (by simp) (hb hby d36_4) hr
 ·show Q_rmIsoC Z p1 h0 n0 _ T101.heap _
  rw [H101]
  exact ⟨congrArg (fun z => some (Value.int z)) (own_nb _), N101, rfl⟩
theorem d40_0 : DK cD37 0 (.iload_n 0) 1 := by decide +kernel
theorem d40_1 : DK cD37 1 (.sipush 255) 3 := by decide +kernel
theorem d40_4 : DK cD37 4 (.if_icmp .gt 7) 3 := by decide +kernel
theorem d40_7 : DK cD37 7 (.iconst 1) 1 := by decide +kernel
theorem d40_8 : DK cD37 8 (.goto 4) 3 := by decide +kernel
theorem d40_12 : DK cD37 12 (.ireturn) 1 := by decide +kernel
theorem pn_40 : plainName "java/lang/StringLatin1" = true := by first | (simp [plainName, overriddenIn]; done) | decide +kernel
theorem ef_rmCanC (m : MethodId) (y0 : Int32) : entryFrame m #[(.int y0)] 1 = (mkF m 0 #[vI y0] []) := by first | (simp [entryFrame, mkF, argsToLocals, Value.category]; done) | rfl
def Q_rmCanC (Z : State) (p1 : Int32) (h0 : Heap) (n0 : Nat) (v : Option Value) (h : Heap) (L : List Loc) : Prop := v = some (.int 1) ∧ Fr n0 L ∧ h = h0
theorem rmCanC (l : Launch) (Z : State) (a0 : Array Value) (hw : HW a0 Z) (ws : List Jvm.Cond) (p1 : Int32) (h0 : Heap) (n0 : Nat) (O0 : Old Z n0 h0) (hp : ¬ ((255 : Int32) < p1)) :
  MF l mN37 jdk_43_method_3_code 1 (some .boolean) ws (Rm 0 0 0 0) Z #[(.int p1)] h0 (Q_rmCanC Z p1 h0 n0) := by
 refine MetFree.of_bodySF (plainFor_of_name pn_40) hisR ?_
 intro p e s m args below meth c s₁ Bd hml0 hP hK
 obtain ⟨rfl, hZ, hh⟩ := hP
 have hx := Bd.exec
 have hby := Bd.bytes
 have hml : c.maxLocals = 1 := hml0
 have hown : s.vm.findClass "java/lang/StringLatin1" = some m.cls := findClass_of_methodNamed Bd.named
 have X0 : Stand p l e (Rm 0 0 0 0) s m #[(.int p1)] below meth c s₁ [] 0 0 := Stand.of_body Bd
 have e0 : s₁.heap = h0 := by rw [← hh, Bd.state]; rfl
 have N0 := Fr.nil n0
 have hn0 : n0 ≤ h0.size := O0.1 ▸ O0.2.1
 have pre0 : ∀ t, SS p e below s₁ m 0 #[vI p1] [] t → SE p e below s₁ m #[(.int p1)] 1 t := fun t k => castTop (ef_rmCanC m p1) k
 obtain ⟨fs, hr, hrun, hended, hW, hsame⟩ := X0.leave (v := some (.int 1)) (nvr Bd.returns)
 refine ⟨_, _, pre0 _ ?_, hrun, hended, _, _, rfl, ?_, ⟨_, rfl⟩, hW, hsame.mono (by decide) (by decide)⟩
 ·skip
  show SS p e below s₁ m 0 #[vI p1] [] _
  refine XS.iloadN X0.here hx rfl (hb hby d40_0) rfl ?_
  refine XS.sipush X0.here hx rfl (hb hby d40_1) ?_
  refine XS.icmpNo X0.here hx rfl (hb hby d40_4) rfl (flt (hp : ¬ ((255 : Int32) < p1))).2.2.1 ?_
  refine XS.iconst X0.here hx rfl (hb hby d40_7) ?_
  refine XS.goto X0.here hx rfl (pc0 := 8) (pc' := 12) rfl (hb hby d40_8) (by decide) (by decide) ?_
  show SS p e below s₁ m 12 #[vI p1] [(.int 1)] _
  exact retN X0 hx (t := .boolean) Bd.returns (by simp) (hb hby d40_12) hr
 ·show Q_rmCanC Z p1 h0 n0 _ s₁.heap _
  rw [e0]
  exact ⟨rfl, N0, rfl⟩
theorem d33_0 : DK cD38 0 (.aload_n 0) 1 := by decide +kernel
theorem d33_1 : DK cD38 1 (.getfield 22) 3 := by decide +kernel
theorem d33_4 : DK cD38 4 (.istore_n 2) 1 := by decide +kernel
theorem d33_5 : DK cD38 5 (.aload_n 0) 1 := by decide +kernel
theorem d33_6 : DK cD38 6 (.getfield 15) 3 := by decide +kernel
theorem d33_9 : DK cD38 9 (.astore_n 3) 1 := by decide +kernel
theorem d33_10 : DK cD38 10 (.aload_n 0) 1 := by decide +kernel
theorem d33_11 : DK cD38 11 (.getfield 79) 3 := by decide +kernel
theorem d33_14 : DK cD38 14 (.aload_n 3) 1 := by decide +kernel
theorem d33_15 : DK cD38 15 (.arraylength) 1 := by decide +kernel
theorem d33_16 : DK cD38 16 (.iload_n 2) 1 := by decide +kernel
theorem d33_17 : DK cD38 17 (.ishr) 1 := by decide +kernel
theorem d33_18 : DK cD38 18 (.invokestatic 138) 3 := by decide +kernel
theorem d33_21 : DK cD38 21 (.istore 4) 2 := by decide +kernel
theorem d33_23 : DK cD38 23 (.iload_n 1) 1 := by decide +kernel
theorem d33_24 : DK cD38 24 (.iload 4) 2 := by decide +kernel
theorem d33_26 : DK cD38 26 (.invokestatic 144) 3 := by decide +kernel
theorem d33_29 : DK cD38 29 (.iload_n 2) 1 := by decide +kernel
theorem d33_30 : DK cD38 30 (.ifCond .ne 12) 3 := by decide +kernel
theorem d33_33 : DK cD38 33 (.aload_n 3) 1 := by decide +kernel
theorem d33_34 : DK cD38 34 (.iload_n 1) 1 := by decide +kernel
theorem d33_35 : DK cD38 35 (.baload) 1 := by decide +kernel
theorem d33_36 : DK cD38 36 (.sipush 255) 3 := by decide +kernel
theorem d33_39 : DK cD38 39 (.iand) 1 := by decide +kernel
theorem d33_40 : DK cD38 40 (.i2c) 1 := by decide +kernel
theorem d33_41 : DK cD38 41 (.ireturn) 1 := by decide +kernel
theorem ef_rmAcL (m : MethodId) (y0 : Addr) (y1 : Int32) : entryFrame m #[(.ref y0), (.int y1)] 5 = (mkF m 0 #[vR y0, vI y1, .unset, .unset, .unset] []) := by first | (simp [entryFrame, mkF, argsToLocals, Value.category]; done) | rfl
def Q_rmAcL (Z : State) (a1 : Addr) (cs : List Int32) (cs0 : Int32) (i : Nat) (v1 : Addr) (kv : ClassId) (nn : Nat) (ml : Int32) (fm : Value) (h0 : Heap) (n0 : Nat) (v : Option Value) (h : Heap) (L : List Loc) : Prop := v = some (.int (cs.getD i 0)) ∧ Fr n0 L ∧ h = h0
theorem rmAcL (l : Launch) (Z : State) (a0 : Array Value) (hw : HW a0 Z) (ws : List Jvm.Cond) (a1 : Addr) (cs : List Int32) (cs0 : Int32) (i : Nat) (v1 : Addr) (kv : ClassId) (nn : Nat) (ml : Int32) (fm : Value) (h0 : Heap) (n0 : Nat) (O0 : Old Z n0 h0) (S_CS : SCS Z cs0) (c_CS : ¬ (cs0 = (0 : Int32))) (S_FM : SFM Z fm) (r_FM : fm.isRef = true) (Eb : Exa Z h0 a1 "java/lang/StringBuilder") (Bv : Fld Z h0 a1 "java/lang/AbstractStringBuilder" "value" "[B" (.ref v1)) (Bc : Fld Z h0 a1 "java/lang/AbstractStringBuilder" "coder" "B" (.int 0)) (Bn : Fld Z h0 a1 "java/lang/AbstractStringBuilder" "count" "I" (.int (oN nn))) (Bm : Fld Z h0 a1 "java/lang/AbstractStringBuilder" "maybeLatin1" "Z" (.int ml)) (Vb : Arv Z h0 v1 kv .byte (oN (nn + 16)) ((lat cs).map Value.int) (.int 0)) (hnn : cs.length = nn) (hM : nn ≤ 4) (hi : i < nn) (hL : ∀ c ∈ cs, ¬ c < 0 ∧ ¬ (255 : Int32) < c) :
  MF l mN38 jdk_68_method_14_code 5 (some .char) ws (Rm 2 0 0 50) Z #[(.ref a1), (.int (oN i))] h0 (Q_rmAcL Z a1 cs cs0 i v1 kv nn ml fm h0 n0) := by
 refine MetFree.of_bodySF (plainFor_of_name pn_7) hisR ?_
 intro p e s m args below meth c s₁ Bd hml0 hP hK
 obtain ⟨rfl, hZ, hh⟩ := hP
 have hx := Bd.exec
 have hby := Bd.bytes
 have hml : c.maxLocals = 5 := hml0
 have hown : s.vm.findClass "java/lang/AbstractStringBuilder" = some m.cls := findClass_of_methodNamed Bd.named
 have X0 : Stand p l e (Rm 2 0 0 50) s m #[(.ref a1), (.int (oN i))] below meth c s₁ [] 0 0 := Stand.of_body Bd
 have e0 : s₁.heap = h0 := by rw [← hh, Bd.state]; rfl
 have N0 := Fr.nil n0
 have hn0 : n0 ≤ h0.size := O0.1 ▸ O0.2.1
 have pre0 : ∀ t, SS p e below s₁ m 0 #[vR a1, vI (oN i), .unset, .unset, .unset] [] t → SE p e below s₁ m #[(.ref a1), (.int (oN i))] 5 t := fun t k => castTop (ef_rmAcL m a1 ((oN i))) k
 have hi1 : i < cs.length := by omega
 have hi2 : i < (lat cs).length := by rw [lat_len]; omega
 obtain ⟨T101, X101, e101, st101⟩ := getF X0 hx hZ hown (host := "") (Or.inl (tw hw 57 rfl)) Via.refl e0 Bc (g := (mkF m 1 #[vR a1, vI (oN i), .unset, .unset, .unset] [(.ref a1)])) rfl rfl (hb hby d33_1)
 obtain ⟨T102, X102, e102, st102⟩ := getF X101 hx hZ hown (host := "") (Or.inl (tw hw 59 rfl)) Via.refl e101 Bv (g := (mkF m 6 #[vR a1, vI (oN i), vI 0, .unset, .unset] [(.ref a1)])) rfl rfl (hb hby d33_6)
 obtain ⟨T103, X103, e103, st103⟩ := getF X102 hx hZ hown (host := "") (Or.inl (tw hw 75 rfl)) Via.refl e102 Bn (g := (mkF m 11 #[vR a1, vI (oN i), vI 0, vR v1, .unset] [(.ref a1)])) rfl rfl (hb hby d33_11)
 obtain ⟨cl104, Ar104, q104, S104, Nn104, H104, G104⟩ := id Vb
 have hr105 : ((oN (nn + 16)) >>> ((0 : Int32) &&& 31)) = (oN (nn + 16)) := own_shr0 _
 obtain ⟨_, _, ⟨T106, L106, k106, n106⟩, -, X106, ⟨Lc106, hQ106, l106, y106, z106⟩, st106⟩ := Jvm.LawKit.callS X103 hx (y := mN13) hown (mvT hZ (tw hw 173 rfl)) (mvT hZ (tw hw 146 rfl)) (mvT hZ (tw hw 147 rfl)) (mvT hZ (tw hw 148 rfl)) (by decide) (backOf (W := 0) (rmMmin l Z a0 hw [] (oN nn) (oN (nn + 16))  h0 n0 O0 ) hZ (tw hw 148 rfl) (tw hw 147 rfl) (by decide) (by decide)) (g := (mkF m 18 #[vR a1, vI (oN i), vI 0, vR v1, .unset] [(.int (oN (nn + 16))), (.int (oN nn))])) rfl (by rw [hml]; rfl) (argsL := [(.int (oN nn)), (.int (oN (nn + 16)))]) (rest := []) (lenOf pd_21 rfl) rfl (wL _) (hb hby d33_18) (fun _ _ => ⟨rfl, e103, (by decide : 0 + 0 ≤ _), (by decide : 0 + 0 ≤ _)⟩)
 dsimp only [Pt.U, Pt.locs, Pt.cells, Pt.slots] at X106 l106 y106 z106 st106 hQ106
 subst l106 y106 z106
 obtain ⟨rfl, N106q, H106⟩ := hQ106
 have N106 := Fr.app N0 N106q
 have hr107 : (jmin (oN nn) (oN (nn + 16))) = (oN nn) := own_jmin (by omega) (by omega)
 obtain ⟨_, _, ⟨T108, L108, k108, n108⟩, -, X108, ⟨Lc108, hQ108, l108, y108, z108⟩, st108⟩ := Jvm.LawKit.callS X106 hx (y := mN18) hown (mvT hZ (tw hw 174 rfl)) (mvT hZ (tw hw 175 rfl)) (mvT hZ (tw hw 8 rfl)) (mvT hZ (tw hw 176 rfl)) (by decide) (backOf (W := 0) (rmCi l Z a0 hw [] (oN i) (oN nn) fm h0 n0 O0 S_FM r_FM (own_nn (by omega)) ((own_lt (by omega) (by omega)).mpr (by omega))) hZ (tw hw 176 rfl) (tw hw 8 rfl) (by decide) (by decide)) (g := (mkF m 26 #[vR a1, vI (oN i), vI 0, vR v1, vI (oN nn)] [(.int (oN nn)), (.int (oN i))])) rfl (by rw [hml]; rfl) (argsL := [(.int (oN i)), (.int (oN nn))]) (rest := []) (lenOf pd_20 rfl) rfl (wL _) (hb hby d33_26) (fun _ _ => ⟨rfl, H106, (by decide : 0 + 0 ≤ _), (by decide : 0 + 0 ≤ _)⟩)
 dsimp only [Pt.U, Pt.locs, Pt.cells, Pt.slots] at X108 l108 y108 z108 st108 hQ108
 subst l108 y108 z108
 obtain ⟨rfl, N108q, H108⟩ := hQ108
 have N108 := Fr.app N106 N108q
 obtain ⟨cl109, Ar109, q109, S109, Nn109, H109, G109⟩ := id Vb
 have hat109 : cl109.slots[((oN i)).toNatClampNeg]? = some (.int ((lat cs).getD i 0)) := (Has.at H109 (inb_of S109 ⟨own_nn (by omega), (own_lt (by omega) (by omega)).mpr (by omega)⟩) (own_getD _ hi2 (by omega)))
 have hr110 : (((lat cs).getD i 0) &&& (255 : Int32)) = (cs.getD i 0) := own_latc hL hi1
 obtain ⟨fs, hr, hrun, hended, hW, hsame⟩ := X108.leave (v := some (.int (nar .char ((cs.getD i 0).toUInt32.toUInt16.toUInt32.toInt32)))) (nvr Bd.returns)
 refine ⟨_, _, pre0 _ ?_, hrun, hended, _, _, rfl, ?_, ⟨_, rfl⟩, hW, hsame.mono (by decide) (by decide)⟩
 ·skip
  show SS p e below s₁ m 0 #[vR a1, vI (oN i), .unset, .unset, .unset] [] _
  refine XS.aloadN X0.here hx rfl (hb hby d33_0) rfl rfl ?_
  show SS p e below s₁ m 1 #[vR a1, vI (oN i), .unset, .unset, .unset] [(.ref a1)] _
  refine st101 _ ?_
  refine XS.istoreN X101.here hx rfl (hb hby d33_4) rfl (l' := #[vR a1, vI (oN i), vI 0, .unset, .unset]) rfl ?_
  refine XS.aloadN X101.here hx rfl (hb hby d33_5) rfl rfl ?_
  show SS p e below T101 m 6 #[vR a1, vI (oN i), vI 0, .unset, .unset] [(.ref a1)] _
  refine st102 _ ?_
  refine XS.astoreN X102.here hx rfl (hb hby d33_9) rfl rfl (l' := #[vR a1, vI (oN i), vI 0, vR v1, .unset]) rfl ?_
  refine XS.aloadN X102.here hx rfl (hb hby d33_10) rfl rfl ?_
  show SS p e below T102 m 11 #[vR a1, vI (oN i), vI 0, vR v1, .unset] [(.ref a1)] _
  refine st103 _ ?_
  refine XS.aloadN X103.here hx rfl (hb hby d33_14) rfl rfl ?_
  show SS p e below T103 m 15 #[vR a1, vI (oN i), vI 0, vR v1, .unset] [(.ref v1), (.int (oN nn))] _
  refine X103.arraylength hx (by rw [e103]; exact Ar104.1) (State.isArrayOf_alike hZ.alike Ar104.2.1) (g := (mkF m 15 #[vR a1, vI (oN i), vI 0, vR v1, .unset] [(.ref v1), (.int (oN nn))])) rfl rfl (hb hby d33_15) _ ?_
  rw [len_of S104 Nn104]
  refine XS.iloadN X103.here hx rfl (hb hby d33_16) rfl ?_
  show SS p e below T103 m 17 #[vR a1, vI (oN i), vI 0, vR v1, .unset] [(.int 0), (.int (oN (nn + 16))), (.int (oN nn))] _
  refine XS.ishr X103.here hx rfl (hb hby d33_17) rfl ?_
  show SS p e below T103 m 18 #[vR a1, vI (oN i), vI 0, vR v1, .unset] [(.int ((oN (nn + 16)) >>> ((0 : Int32) &&& 31))), (.int (oN nn))] _
  rw [hr105]
  show SS p e below T103 m 18 #[vR a1, vI (oN i), vI 0, vR v1, .unset] [(.int (oN (nn + 16))), (.int (oN nn))] _
  refine st106 _ ?_
  show SS p e below T106 m 21 #[vR a1, vI (oN i), vI 0, vR v1, .unset] [(.int (jmin (oN nn) (oN (nn + 16))))] _
  rw [hr107]
  refine XS.istore X106.here hx rfl (hb hby d33_21) rfl (l' := #[vR a1, vI (oN i), vI 0, vR v1, vI (oN nn)]) rfl ?_
  refine XS.iloadN X106.here hx rfl (hb hby d33_23) rfl ?_
  refine XS.iload X106.here hx rfl (hb hby d33_24) rfl ?_
  show SS p e below T106 m 26 #[vR a1, vI (oN i), vI 0, vR v1, vI (oN nn)] [(.int (oN nn)), (.int (oN i))] _
  refine st108 _ ?_
  refine XS.iloadN X108.here hx rfl (hb hby d33_29) rfl ?_
  refine XS.ifNo X108.here hx rfl (hb hby d33_30) rfl ((if0 _ _).trans (teq (by decide : (0 : Int32) = (0 : Int32))).2) ?_
  refine XS.aloadN X108.here hx rfl (hb hby d33_33) rfl rfl ?_
  refine XS.iloadN X108.here hx rfl (hb hby d33_34) rfl ?_
  show SS p e below T108 m 35 #[vR a1, vI (oN i), vI 0, vR v1, vI (oN nn)] [(.int (oN i)), (.ref v1)] _
  refine X108.baloadBytes hx (j := (oN i)) (v := (.int ((lat cs).getD i 0))) (by rw [H108]; exact Ar109.1) (State.isArrayOf_alike hZ.alike Ar109.2.1) Ar109.2.2 (inb_of S109 ⟨own_nn (by omega), (own_lt (by omega) (by omega)).mpr (by omega)⟩) hat109 (g := (mkF m 35 #[vR a1, vI (oN i), vI 0, vR v1, vI (oN nn)] [(.int (oN i)), (.ref v1)])) rfl rfl (hb hby d33_35) _ ?_
  refine XS.sipush X108.here hx rfl (hb hby d33_36) ?_
  refine XS.iand X108.here hx rfl (hb hby d33_39) rfl ?_
  show SS p e below T108 m 40 #[vR a1, vI (oN i), vI 0, vR v1, vI (oN nn)] [(.int (((lat cs).getD i 0) &&& (255 : Int32)))] _
  rw [hr110]
  refine XS.i2c X108.here hx rfl (hb hby d33_40) rfl ?_
  show SS p e below T108 m 41 #[vR a1, vI (oN i), vI 0, vR v1, vI (oN nn)] [(.int ((cs.getD i 0).toUInt32.toUInt16.toUInt32.toInt32))] _
  exact retN X108 hx (t := .char) Bd.returns (by simp) (hb hby d33_41) hr
 ·show Q_rmAcL Z a1 cs cs0 i v1 kv nn ml fm h0 n0 _ T108.heap _
  rw [H108]
  exact ⟨congrArg (fun z => some (Value.int z)) ((own_c16 _).trans (own_nc (own_c255 (hL _ (own_getmem hi1))))), N108, rfl⟩
theorem d32_0 : DK cD39 0 (.aload_n 0) 1 := by decide +kernel
theorem d32_1 : DK cD39 1 (.iload_n 1) 1 := by decide +kernel
theorem d32_2 : DK cD39 2 (.invokespecial 329) 3 := by decide +kernel
theorem d32_5 : DK cD39 5 (.ireturn) 1 := by decide +kernel
theorem pd_26 : parseMethodDescriptor "(I)C" = some ⟨[.int], some .char⟩ := by decide +kernel
theorem ef_rmBcL (m : MethodId) (y0 : Addr) (y1 : Int32) : entryFrame m #[(.ref y0), (.int y1)] 2 = (mkF m 0 #[vR y0, vI y1] []) := by first | (simp [entryFrame, mkF, argsToLocals, Value.category]; done) | rfl
def Q_rmBcL (Z : State) (a1 : Addr) (cs : List Int32) (cs0 : Int32) (i : Nat) (v1 : Addr) (kv : ClassId) (nn : Nat) (ml : Int32) (fm : Value) (h0 : Heap) (n0 : Nat) (v : Option Value) (h : Heap) (L : List Loc) : Prop := v = some (.int (cs.getD i 0)) ∧ Fr n0 L ∧ h = h0
theorem rmBcL (l : Launch) (Z : State) (a0 : Array Value) (hw : HW a0 Z) (ws : List Jvm.Cond) (a1 : Addr) (cs : List Int32) (cs0 : Int32) (i : Nat) (v1 : Addr) (kv : ClassId) (nn : Nat) (ml : Int32) (fm : Value) (h0 : Heap) (n0 : Nat) (O0 : Old Z n0 h0) (S_CS : SCS Z cs0) (c_CS : ¬ (cs0 = (0 : Int32))) (S_FM : SFM Z fm) (r_FM : fm.isRef = true) (Eb : Exa Z h0 a1 "java/lang/StringBuilder") (Bv : Fld Z h0 a1 "java/lang/AbstractStringBuilder" "value" "[B" (.ref v1)) (Bc : Fld Z h0 a1 "java/lang/AbstractStringBuilder" "coder" "B" (.int 0)) (Bn : Fld Z h0 a1 "java/lang/AbstractStringBuilder" "count" "I" (.int (oN nn))) (Bm : Fld Z h0 a1 "java/lang/AbstractStringBuilder" "maybeLatin1" "Z" (.int ml)) (Vb : Arv Z h0 v1 kv .byte (oN (nn + 16)) ((lat cs).map Value.int) (.int 0)) (hnn : cs.length = nn) (hM : nn ≤ 4) (hi : i < nn) (hL : ∀ c ∈ cs, ¬ c < 0 ∧ ¬ (255 : Int32) < c) :
  MF l mN39 jdk_67_method_88_code 2 (some .char) ws (Rm 3 0 0 70) Z #[(.ref a1), (.int (oN i))] h0 (Q_rmBcL Z a1 cs cs0 i v1 kv nn ml fm h0 n0) := by
 refine MetFree.of_bodySF (plainFor_of_name pn_6) hisR ?_
 intro p e s m args below meth c s₁ Bd hml0 hP hK
 obtain ⟨rfl, hZ, hh⟩ := hP
 have hx := Bd.exec
 have hby := Bd.bytes
 have hml : c.maxLocals = 2 := hml0
 have hown : s.vm.findClass "java/lang/StringBuilder" = some m.cls := findClass_of_methodNamed Bd.named
 have X0 : Stand p l e (Rm 3 0 0 70) s m #[(.ref a1), (.int (oN i))] below meth c s₁ [] 0 0 := Stand.of_body Bd
 have e0 : s₁.heap = h0 := by rw [← hh, Bd.state]; rfl
 have N0 := Fr.nil n0
 have hn0 : n0 ≤ h0.size := O0.1 ▸ O0.2.1
 have pre0 : ∀ t, SS p e below s₁ m 0 #[vR a1, vI (oN i)] [] t → SE p e below s₁ m #[(.ref a1), (.int (oN i))] 2 t := fun t k => castTop (ef_rmBcL m a1 ((oN i))) k
 have hi1 : i < cs.length := by omega
 have hi2 : i < (lat cs).length := by rw [lat_len]; omega
 obtain ⟨_, _, ⟨T101, L101, k101, n101⟩, -, X101, ⟨Lc101, hQ101, l101, y101, z101⟩, st101⟩ := superBack X0 hx hZ hown (tw hw 169 rfl) (own_same (tw hw 170 rfl) (own_nface (a0 := a0) (y := mN38) (tw hw 80 rfl) rfl) (by decide)) (tw hw 170 rfl) (tw hw 73 rfl) (by decide) (backOf (W := 0) (rmAcL l Z a0 hw [] a1 cs cs0 i v1 kv nn ml fm h0 n0 O0 S_CS c_CS S_FM r_FM Eb Bv Bc Bn Bm Vb hnn hM hi hL) hZ (tw hw 172 rfl) (tw hw 41 rfl) (by decide) (by decide)) e0 (Ins.self Eb) (g := (mkF m 2 #[vR a1, vI (oN i)] [(.int (oN i)), (.ref a1)])) rfl (by rw [hml]; rfl) (tw hw 172 rfl) (a := a1) (argsL := [(.int (oN i))]) (rest := []) (lenOf pd_26 rfl) rfl (wL _) (hb hby d32_2) (fun _ _ => ⟨rfl, e0, (by decide : 0 + 0 ≤ _), (by decide : 0 + 0 ≤ _)⟩)
 dsimp only [Pt.U, Pt.locs, Pt.cells, Pt.slots] at X101 l101 y101 z101 st101 hQ101
 subst l101 y101 z101
 obtain ⟨rfl, N101q, H101⟩ := hQ101
 have N101 := Fr.app N0 N101q
 obtain ⟨fs, hr, hrun, hended, hW, hsame⟩ := X101.leave (v := some (.int (nar .char (cs.getD i 0)))) (nvr Bd.returns)
 refine ⟨_, _, pre0 _ ?_, hrun, hended, _, _, rfl, ?_, ⟨_, rfl⟩, hW, hsame.mono (by decide) (by decide)⟩
 ·skip
  show SS p e below s₁ m 0 #[vR a1, vI (oN i)] [] _
  refine XS.aloadN X0.here hx rfl (hb hby d32_0) rfl rfl ?_
  refine XS.iloadN X0.here hx rfl (hb hby d32_1) rfl ?_
  show SS p e below s₁ m 2 #[vR a1, vI (oN i)] [(.int (oN i)), (.ref a1)] _
  refine st101.trans ?_
  show SS p e below T101 m 5 #[vR a1, vI (oN i)] [(.int (cs.getD i 0))] _
  exact retN X101 hx (t := .char) Bd.returns (by simp) (hb hby d32_5) hr
 ·show Q_rmBcL Z a1 cs cs0 i v1 kv nn ml fm h0 n0 _ T101.heap _
  rw [H101]
  exact ⟨congrArg (fun z => some (Value.int z)) (own_nc (own_c255 (hL _ (own_getmem hi1)))), N101, rfl⟩
theorem d39_0 : DK cD40 0 (.iload_n 1) 1 := by decide +kernel
theorem d39_1 : DK cD40 1 (.aload_n 0) 1 := by decide +kernel
theorem d39_2 : DK cD40 2 (.getfield 79) 3 := by decide +kernel
theorem d39_5 : DK cD40 5 (.invokestatic 144) 3 := by decide +kernel
theorem d39_8 : DK cD40 8 (.aload_n 0) 1 := by decide +kernel
theorem d39_9 : DK cD40 9 (.invokevirtual 83) 3 := by decide +kernel
theorem d39_12 : DK cD40 12 (.ifCond .eq 21) 3 := by decide +kernel
theorem d39_15 : DK cD40 15 (.iload_n 2) 1 := by decide +kernel
theorem d39_16 : DK cD40 16 (.invokestatic 191) 3 := by decide +kernel
theorem d39_19 : DK cD40 19 (.ifCond .eq 14) 3 := by decide +kernel
theorem d39_22 : DK cD40 22 (.aload_n 0) 1 := by decide +kernel
theorem d39_23 : DK cD40 23 (.getfield 15) 3 := by decide +kernel
theorem d39_26 : DK cD40 26 (.iload_n 1) 1 := by decide +kernel
theorem d39_27 : DK cD40 27 (.iload_n 2) 1 := by decide +kernel
theorem d39_28 : DK cD40 28 (.i2b) 1 := by decide +kernel
theorem d39_29 : DK cD40 29 (.bastore) 1 := by decide +kernel
theorem d39_30 : DK cD40 30 (.goto 28) 3 := by decide +kernel
theorem d39_58 : DK cD40 58 (.return_) 1 := by decide +kernel
theorem pd_18 : parseMethodDescriptor "()Z" = some ⟨[], some .boolean⟩ := by decide +kernel
theorem pd_28 : parseMethodDescriptor "(C)Z" = some ⟨[.char], some .boolean⟩ := by decide +kernel
theorem ef_rmScL (m : MethodId) (y0 : Addr) (y1 : Int32) : entryFrame m #[(.ref y0), (.int y1), (.int 63)] 3 = (mkF m 0 #[vR y0, vI y1, vI 63] []) := by first | (simp [entryFrame, mkF, argsToLocals, Value.category]; done) | rfl
def Q_rmScL (Z : State) (a1 : Addr) (cs : List Int32) (cs0 : Int32) (i : Nat) (v1 : Addr) (kv : ClassId) (nn : Nat) (ml : Int32) (fm : Value) (h0 : Heap) (n0 : Nat) (v : Option Value) (h : Heap) (L : List Loc) : Prop := ∃ ml' : Int32, v = none ∧ Fr n0 L ∧ Keep h0 h [a1, v1] ∧ Exa Z h a1 "java/lang/StringBuilder" ∧ Fld Z h a1 "java/lang/AbstractStringBuilder" "value" "[B" (.ref v1) ∧ Fld Z h a1 "java/lang/AbstractStringBuilder" "coder" "B" (.int 0) ∧ Fld Z h a1 "java/lang/AbstractStringBuilder" "count" "I" (.int (oN nn)) ∧ Fld Z h a1 "java/lang/AbstractStringBuilder" "maybeLatin1" "Z" (.int ml') ∧ Arv Z h v1 kv .byte (oN (nn + 16)) ((lat (cs.set i (63 : Int32))).map Value.int) (.int 0)
theorem rmScL (l : Launch) (Z : State) (a0 : Array Value) (hw : HW a0 Z) (ws : List Jvm.Cond) (a1 : Addr) (cs : List Int32) (cs0 : Int32) (i : Nat) (v1 : Addr) (kv : ClassId) (nn : Nat) (ml : Int32) (fm : Value) (h0 : Heap) (n0 : Nat) (O0 : Old Z n0 h0) (S_CS : SCS Z cs0) (c_CS : ¬ (cs0 = (0 : Int32))) (S_FM : SFM Z fm) (r_FM : fm.isRef = true) (Eb : Exa Z h0 a1 "java/lang/StringBuilder") (Bv : Fld Z h0 a1 "java/lang/AbstractStringBuilder" "value" "[B" (.ref v1)) (Bc : Fld Z h0 a1 "java/lang/AbstractStringBuilder" "coder" "B" (.int 0)) (Bn : Fld Z h0 a1 "java/lang/AbstractStringBuilder" "count" "I" (.int (oN nn))) (Bm : Fld Z h0 a1 "java/lang/AbstractStringBuilder" "maybeLatin1" "Z" (.int ml)) (Vb : Arv Z h0 v1 kv .byte (oN (nn + 16)) ((lat cs).map Value.int) (.int 0)) (hnn : cs.length = nn) (hM : nn ≤ 4) (hi : i < nn) (hL : ∀ c ∈ cs, ¬ c < 0 ∧ ¬ (255 : Int32) < c) (g1 : n0 ≤ a1) (gv : n0 ≤ v1) (nv1 : @Ne Nat v1 a1) :
  MF l mN40 jdk_68_method_20_code 3 none ws (Rm 4 0 0 90) Z #[(.ref a1), (.int (oN i)), (.int 63)] h0 (Q_rmScL Z a1 cs cs0 i v1 kv nn ml fm h0 n0) := by
 refine MetFree.of_bodySF (plainFor_of_name pn_7) hisR ?_
 intro p e s m args below meth c s₁ Bd hml0 hP hK
 obtain ⟨rfl, hZ, hh⟩ := hP
 have hx := Bd.exec
 have hby := Bd.bytes
 have hml : c.maxLocals = 3 := hml0
 have hown : s.vm.findClass "java/lang/AbstractStringBuilder" = some m.cls := findClass_of_methodNamed Bd.named
 have X0 : Stand p l e (Rm 4 0 0 90) s m #[(.ref a1), (.int (oN i)), (.int 63)] below meth c s₁ [] 0 0 := Stand.of_body Bd
 have e0 : s₁.heap = h0 := by rw [← hh, Bd.state]; rfl
 have N0 := Fr.nil n0
 have hn0 : n0 ≤ h0.size := O0.1 ▸ O0.2.1
 have pre0 : ∀ t, SS p e below s₁ m 0 #[vR a1, vI (oN i), vI 63] [] t → SE p e below s₁ m #[(.ref a1), (.int (oN i)), (.int 63)] 3 t := fun t k => castTop (ef_rmScL m a1 ((oN i))) k
 have hi1 : i < cs.length := by omega
 have hi2 : i < (lat cs).length := by rw [lat_len]; omega
 have lt_a1 : @LT.lt Nat _ a1 h0.size := Eb.lt
 have lt_v1 : @LT.lt Nat _ v1 h0.size := Vb.lt
 obtain ⟨T101, X101, e101, st101⟩ := getF X0 hx hZ hown (host := "") (Or.inl (tw hw 75 rfl)) Via.refl e0 Bn (g := (mkF m 2 #[vR a1, vI (oN i), vI 63] [(.ref a1), (.int (oN i))])) rfl rfl (hb hby d39_2)
 obtain ⟨_, _, ⟨T102, L102, k102, n102⟩, -, X102, ⟨Lc102, hQ102, l102, y102, z102⟩, st102⟩ := Jvm.LawKit.callS X101 hx (y := mN18) hown (mvT hZ (tw hw 174 rfl)) (mvT hZ (tw hw 175 rfl)) (mvT hZ (tw hw 8 rfl)) (mvT hZ (tw hw 176 rfl)) (by decide) (backOf (W := 0) (rmCi l Z a0 hw [] (oN i) (oN nn) fm h0 n0 O0 S_FM r_FM (own_nn (by omega)) ((own_lt (by omega) (by omega)).mpr (by omega))) hZ (tw hw 176 rfl) (tw hw 8 rfl) (by decide) (by decide)) (g := (mkF m 5 #[vR a1, vI (oN i), vI 63] [(.int (oN nn)), (.int (oN i))])) rfl (by rw [hml]; rfl) (argsL := [(.int (oN i)), (.int (oN nn))]) (rest := []) (lenOf pd_20 rfl) rfl (wL _) (hb hby d39_5) (fun _ _ => ⟨rfl, e101, (by decide : 0 + 0 ≤ _), (by decide : 0 + 0 ≤ _)⟩)
 dsimp only [Pt.U, Pt.locs, Pt.cells, Pt.slots] at X102 l102 y102 z102 st102 hQ102
 subst l102 y102 z102
 obtain ⟨rfl, N102q, H102⟩ := hQ102
 have N102 := Fr.app N0 N102q
 obtain ⟨cq103, kq103, q103a, q103b, q103c⟩ := isOf hZ H102 Eb
 obtain ⟨_, _, ⟨T103, L103, k103, n103⟩, -, X103, ⟨Lc103, hQ103, l103, y103, z103⟩, st103⟩ := X102.virtualBack hx (y := mN19) (z := mN19) hown (mvT hZ (tw hw 198 rfl)) (mvT hZ (tw hw 131 rfl)) (notFace_of_selects (args := #[]) (mvT hZ (tw hw 133 rfl))) (mvT hZ (tw hw 133 rfl)) (mvT hZ (tw hw 132 rfl)) (by decide) (backOf (W := 0) (rmBLatL l Z a0 hw [] a1 cs cs0 v1 kv nn ml h0 n0 O0 S_CS c_CS Eb Bv Bc Bn Bm Vb) hZ (tw hw 134 rfl) (tw hw 41 rfl) (by decide) (by decide)) q103a q103c (g := (mkF m 9 #[vR a1, vI (oN i), vI 63] [(.ref a1)])) rfl (by rw [hml]; rfl) (Steps.refl _) (argsL := []) (rest := []) (lenOf pd_18 rfl) rfl (wL _) (hb hby d39_9) (fun _ _ => ⟨rfl, H102, (by decide : 0 + 0 ≤ _), (by decide : 0 + 0 ≤ _)⟩)
 dsimp only [Pt.U, Pt.locs, Pt.cells, Pt.slots] at X103 l103 y103 z103 st103 hQ103
 subst l103 y103 z103
 obtain ⟨rfl, N103q, H103⟩ := hQ103
 have N103 := Fr.app N102 N103q
 obtain ⟨_, _, ⟨T104, L104, k104, n104⟩, -, X104, ⟨Lc104, hQ104, l104, y104, z104⟩, st104⟩ := Jvm.LawKit.callS X103 hx (y := mN37) hown (mvT hZ (tw hw 199 rfl)) (mvT hZ (tw hw 200 rfl)) (mvT hZ (tw hw 201 rfl)) (mvT hZ (tw hw 202 rfl)) (by decide) (backOf (W := 0) (rmCanC l Z a0 hw [] (63 : Int32)  h0 n0 O0 (by decide)) hZ (tw hw 202 rfl) (tw hw 201 rfl) (by decide) (by decide)) (g := (mkF m 16 #[vR a1, vI (oN i), vI 63] [(.int 63)])) rfl (by rw [hml]; rfl) (argsL := [(.int 63)]) (rest := []) (lenOf pd_28 rfl) rfl (wL _) (hb hby d39_16) (fun _ _ => ⟨rfl, H103, (by decide : 0 + 0 ≤ _), (by decide : 0 + 0 ≤ _)⟩)
 dsimp only [Pt.U, Pt.locs, Pt.cells, Pt.slots] at X104 l104 y104 z104 st104 hQ104
 subst l104 y104 z104
 obtain ⟨rfl, N104q, H104⟩ := hQ104
 have N104 := Fr.app N103 N104q
 obtain ⟨T105, X105, e105, st105⟩ := getF X104 hx hZ hown (host := "") (Or.inl (tw hw 59 rfl)) Via.refl H104 Bv (g := (mkF m 23 #[vR a1, vI (oN i), vI 63] [(.ref a1)])) rfl rfl (hb hby d39_23)
 obtain ⟨cl106, Ar106, q106, S106, Nn106, H106, G106⟩ := id Vb
 obtain ⟨T107, h107, X107, e107, W107, st107⟩ := stB X105 hx hZ e105 Ar106 (j := (oN i)) (inb_of S106 ⟨own_nn (by omega), (own_lt (by omega) (by omega)).mpr (by omega)⟩) (g := (mkF m 29 #[vR a1, vI (oN i), vI 63] [(.int ((63 : Int32).toInt8.toInt32)), (.int (oN i)), (.ref v1)])) rfl rfl (hb hby d39_29)
 rw [show nar .byte ((63 : Int32).toInt8.toInt32) = ((63 : Int32).toInt8.toInt32) from own_i8 _] at W107
 have V107 : Arv Z h107 v1 kv .byte (oN (nn + 16)) (((lat cs).map Value.int).set i (.int ((63 : Int32).toInt8.toInt32))) (.int 0) := Arv.set Ar106 q106 S106 Nn106 H106 G106 (fits_nar_byte _) W107 i (own_nat (by omega)) (by rw [List.length_map]; exact hi2)
 have K107 := Keep.of_wr W107
 have N107 := Fr.snoc X107 N104 (by omega : @LE.le Nat _ n0 v1)
 rw [lat_set cs i (63 : Int32)] at V107
 have sz1_K107 := K107.1
 have KC108 : Keep h0 h107 [a1, v1] := (Keep.refl h0 [a1, v1]).trans K107 (allS (Or.inl (List.mem_of_getElem? (i := 1) rfl)) (all0))
 have C109 := Eb.keep K107
 have C110 := Bv.keep K107 (ninS (by omega : @Ne Nat a1 v1) (nin0))
 have C111 := Bc.keep K107 (ninS (by omega : @Ne Nat a1 v1) (nin0))
 have C112 := Bn.keep K107 (ninS (by omega : @Ne Nat a1 v1) (nin0))
 have C113 := Bm.keep K107 (ninS (by omega : @Ne Nat a1 v1) (nin0))
 obtain ⟨fs, hr, hrun, hended, hW, hsame⟩ := X107.leave (v := none) (fun _ => rfl)
 refine ⟨_, _, pre0 _ ?_, hrun, hended, _, _, rfl, ?_, ⟨_, rfl⟩, hW, hsame.mono (by decide) (by decide)⟩
 ·skip
  show SS p e below s₁ m 0 #[vR a1, vI (oN i), vI 63] [] _
  refine XS.iloadN X0.here hx rfl (hb hby d39_0) rfl ?_
  refine XS.aloadN X0.here hx rfl (hb hby d39_1) rfl rfl ?_
  show SS p e below s₁ m 2 #[vR a1, vI (oN i), vI 63] [(.ref a1), (.int (oN i))] _
  refine st101 _ ?_
  show SS p e below T101 m 5 #[vR a1, vI (oN i), vI 63] [(.int (oN nn)), (.int (oN i))] _
  refine st102 _ ?_
  refine XS.aloadN X102.here hx rfl (hb hby d39_8) rfl rfl ?_
  show SS p e below T102 m 9 #[vR a1, vI (oN i), vI 63] [(.ref a1)] _
  refine st103.trans ?_
  refine XS.ifNo X103.here hx rfl (hb hby d39_12) rfl ((if0 _ _).trans (feq (by decide : ¬ ((1 : Int32) = (0 : Int32)))).1) ?_
  refine XS.iloadN X103.here hx rfl (hb hby d39_15) rfl ?_
  show SS p e below T103 m 16 #[vR a1, vI (oN i), vI 63] [(.int 63)] _
  refine st104 _ ?_
  refine XS.ifNo X104.here hx rfl (hb hby d39_19) rfl ((if0 _ _).trans (feq (by decide : ¬ ((1 : Int32) = (0 : Int32)))).1) ?_
  refine XS.aloadN X104.here hx rfl (hb hby d39_22) rfl rfl ?_
  show SS p e below T104 m 23 #[vR a1, vI (oN i), vI 63] [(.ref a1)] _
  refine st105 _ ?_
  refine XS.iloadN X105.here hx rfl (hb hby d39_26) rfl ?_
  refine XS.iloadN X105.here hx rfl (hb hby d39_27) rfl ?_
  refine XS.i2b X105.here hx rfl (hb hby d39_28) rfl ?_
  show SS p e below T105 m 29 #[vR a1, vI (oN i), vI 63] [(.int ((63 : Int32).toInt8.toInt32)), (.int (oN i)), (.ref v1)] _
  refine st107 _ ?_
  refine XS.goto X107.here hx rfl (pc0 := 30) (pc' := 58) rfl (hb hby d39_30) (by decide) (by decide) ?_
  show SS p e below T107 m 58 #[vR a1, vI (oN i), vI 63] [] _
  exact X107.returnOut hx Bd.returns (hb hby d39_58) hr
 ·show Q_rmScL Z a1 cs cs0 i v1 kv nn ml fm h0 n0 _ T107.heap _
  rw [e107]
  exact ⟨_, rfl, N107, KC108, C109, C110, C111, C112, C113, V107⟩
theorem d38_0 : DK cD41 0 (.aload_n 0) 1 := by decide +kernel
theorem d38_1 : DK cD41 1 (.iload_n 1) 1 := by decide +kernel
theorem d38_2 : DK cD41 2 (.iload_n 2) 1 := by decide +kernel
theorem d38_3 : DK cD41 3 (.invokespecial 308) 3 := by decide +kernel
theorem d38_6 : DK cD41 6 (.return_) 1 := by decide +kernel
theorem pd_30 : parseMethodDescriptor "(IC)V" = some ⟨[.int, .char], none⟩ := by decide +kernel
theorem ef_rmBsL (m : MethodId) (y0 : Addr) (y1 : Int32) : entryFrame m #[(.ref y0), (.int y1), (.int 63)] 3 = (mkF m 0 #[vR y0, vI y1, vI 63] []) := by first | (simp [entryFrame, mkF, argsToLocals, Value.category]; done) | rfl
def Q_rmBsL (Z : State) (a1 : Addr) (cs : List Int32) (cs0 : Int32) (i : Nat) (v1 : Addr) (kv : ClassId) (nn : Nat) (ml : Int32) (fm : Value) (h0 : Heap) (n0 : Nat) (v : Option Value) (h : Heap) (L : List Loc) : Prop := ∃ ml' : Int32, v = none ∧ Fr n0 L ∧ Keep h0 h [a1, v1] ∧ Exa Z h a1 "java/lang/StringBuilder" ∧ Fld Z h a1 "java/lang/AbstractStringBuilder" "value" "[B" (.ref v1) ∧ Fld Z h a1 "java/lang/AbstractStringBuilder" "coder" "B" (.int 0) ∧ Fld Z h a1 "java/lang/AbstractStringBuilder" "count" "I" (.int (oN nn)) ∧ Fld Z h a1 "java/lang/AbstractStringBuilder" "maybeLatin1" "Z" (.int ml') ∧ Arv Z h v1 kv .byte (oN (nn + 16)) ((lat (cs.set i (63 : Int32))).map Value.int) (.int 0)
theorem rmBsL (l : Launch) (Z : State) (a0 : Array Value) (hw : HW a0 Z) (ws : List Jvm.Cond) (a1 : Addr) (cs : List Int32) (cs0 : Int32) (i : Nat) (v1 : Addr) (kv : ClassId) (nn : Nat) (ml : Int32) (fm : Value) (h0 : Heap) (n0 : Nat) (O0 : Old Z n0 h0) (S_CS : SCS Z cs0) (c_CS : ¬ (cs0 = (0 : Int32))) (S_FM : SFM Z fm) (r_FM : fm.isRef = true) (Eb : Exa Z h0 a1 "java/lang/StringBuilder") (Bv : Fld Z h0 a1 "java/lang/AbstractStringBuilder" "value" "[B" (.ref v1)) (Bc : Fld Z h0 a1 "java/lang/AbstractStringBuilder" "coder" "B" (.int 0)) (Bn : Fld Z h0 a1 "java/lang/AbstractStringBuilder" "count" "I" (.int (oN nn))) (Bm : Fld Z h0 a1 "java/lang/AbstractStringBuilder" "maybeLatin1" "Z" (.int ml)) (Vb : Arv Z h0 v1 kv .byte (oN (nn + 16)) ((lat cs).map Value.int) (.int 0)) (hnn : cs.length = nn) (hM : nn ≤ 4) (hi : i < nn) (hL : ∀ c ∈ cs, ¬ c < 0 ∧ ¬ (255 : Int32) < c) (g1 : n0 ≤ a1) (gv : n0 ≤ v1) (nv1 : @Ne Nat v1 a1) :
  MF l mN41 jdk_67_method_82_code 3 none ws (Rm 5 0 0 120) Z #[(.ref a1), (.int (oN i)), (.int 63)] h0 (Q_rmBsL Z a1 cs cs0 i v1 kv nn ml fm h0 n0) := by
 refine MetFree.of_bodySF (plainFor_of_name pn_6) hisR ?_
 intro p e s m args below meth c s₁ Bd hml0 hP hK
 obtain ⟨rfl, hZ, hh⟩ := hP
 have hx := Bd.exec
 have hby := Bd.bytes
 have hml : c.maxLocals = 3 := hml0
 have hown : s.vm.findClass "java/lang/StringBuilder" = some m.cls := findClass_of_methodNamed Bd.named
 have X0 : Stand p l e (Rm 5 0 0 120) s m #[(.ref a1), (.int (oN i)), (.int 63)] below meth c s₁ [] 0 0 := Stand.of_body Bd
 have e0 : s₁.heap = h0 := by rw [← hh, Bd.state]; rfl
 have N0 := Fr.nil n0
 have hn0 : n0 ≤ h0.size := O0.1 ▸ O0.2.1
 have pre0 : ∀ t, SS p e below s₁ m 0 #[vR a1, vI (oN i), vI 63] [] t → SE p e below s₁ m #[(.ref a1), (.int (oN i)), (.int 63)] 3 t := fun t k => castTop (ef_rmBsL m a1 ((oN i))) k
 have hi1 : i < cs.length := by omega
 have hi2 : i < (lat cs).length := by rw [lat_len]; omega
 have lt_a1 : @LT.lt Nat _ a1 h0.size := Eb.lt
 have lt_v1 : @LT.lt Nat _ v1 h0.size := Vb.lt
 obtain ⟨_, _, ⟨T101, L101, k101, n101⟩, -, X101, ⟨Lc101, hQ101, l101, y101, z101⟩, st101⟩ := superBack X0 hx hZ hown (tw hw 194 rfl) (own_same (tw hw 195 rfl) (own_nface (a0 := a0) (y := mN40) (tw hw 80 rfl) rfl) (by decide)) (tw hw 195 rfl) (tw hw 73 rfl) (by decide) (backOf (W := 0) (rmScL l Z a0 hw [] a1 cs cs0 i v1 kv nn ml fm h0 n0 O0 S_CS c_CS S_FM r_FM Eb Bv Bc Bn Bm Vb hnn hM hi hL (by omega : @LE.le Nat _ n0 a1) (by omega : @LE.le Nat _ n0 v1) (by omega)) hZ (tw hw 197 rfl) (tw hw 41 rfl) (by decide) (by decide)) e0 (Ins.self Eb) (g := (mkF m 3 #[vR a1, vI (oN i), vI 63] [(.int 63), (.int (oN i)), (.ref a1)])) rfl (by rw [hml]; rfl) (tw hw 197 rfl) (a := a1) (argsL := [(.int (oN i)), (.int 63)]) (rest := []) (lenOf pd_30 rfl) rfl (wL _) (hb hby d38_3) (fun _ _ => ⟨rfl, e0, (by decide : 0 + 0 ≤ _), (by decide : 0 + 0 ≤ _)⟩)
 dsimp only [Pt.U, Pt.locs, Pt.cells, Pt.slots] at X101 l101 y101 z101 st101 hQ101
 subst l101 y101 z101
 obtain ⟨ml101, rfl, N101q, K101, Eb101, Bv101, Bc101, Bn101, Bm101, Vb101⟩ := hQ101
 have sz1_K101 := K101.1
 have N101 := Fr.app N0 N101q
 have KC102 : Keep h0 T101.heap [a1, v1] := (Keep.refl h0 [a1, v1]).trans K101 (allS (Or.inl (List.mem_of_getElem? (i := 0) rfl)) (allS (Or.inl (List.mem_of_getElem? (i := 1) rfl)) (all0)))
 obtain ⟨fs, hr, hrun, hended, hW, hsame⟩ := X101.leave (v := none) (fun _ => rfl)
 refine ⟨_, _, pre0 _ ?_, hrun, hended, _, _, rfl, ?_, ⟨_, rfl⟩, hW, hsame.mono (by decide) (by decide)⟩
 ·skip
  show SS p e below s₁ m 0 #[vR a1, vI (oN i), vI 63] [] _
  refine XS.aloadN X0.here hx rfl (hb hby d38_0) rfl rfl ?_
  refine XS.iloadN X0.here hx rfl (hb hby d38_1) rfl ?_
  refine XS.iloadN X0.here hx rfl (hb hby d38_2) rfl ?_
  show SS p e below s₁ m 3 #[vR a1, vI (oN i), vI 63] [(.int 63), (.int (oN i)), (.ref a1)] _
  refine st101.trans ?_
  show SS p e below T101 m 6 #[vR a1, vI (oN i), vI 63] [] _
  exact X101.returnOut hx Bd.returns (hb hby d38_6) hr
 ·show Q_rmBsL Z a1 cs cs0 i v1 kv nn ml fm h0 n0 _ T101.heap _
  exact ⟨_, rfl, N101, KC102, Eb101, Bv101, Bc101, Bn101, Bm101, Vb101⟩
theorem d33_42 : DK cD38 42 (.aload_n 3) 1 := by decide +kernel
theorem d33_43 : DK cD38 43 (.iload_n 1) 1 := by decide +kernel
theorem d33_44 : DK cD38 44 (.invokestatic 148) 3 := by decide +kernel
theorem d33_47 : DK cD38 47 (.ireturn) 1 := by decide +kernel
theorem ef_rmAcU (m : MethodId) (y0 : Addr) (y1 : Int32) : entryFrame m #[(.ref y0), (.int y1)] 5 = (mkF m 0 #[vR y0, vI y1, .unset, .unset, .unset] []) := by first | (simp [entryFrame, mkF, argsToLocals, Value.category]; done) | rfl
def Q_rmAcU (Z : State) (a1 : Addr) (cs : List Int32) (cs0 : Int32) (i : Nat) (v1 : Addr) (kv : ClassId) (nn : Nat) (ml : Int32) (fm : Value) (h0 : Heap) (n0 : Nat) (v : Option Value) (h : Heap) (L : List Loc) : Prop := v = some (.int (cs.getD i 0)) ∧ Fr n0 L ∧ h = h0
theorem rmAcU (l : Launch) (Z : State) (a0 : Array Value) (hw : HW a0 Z) (ws : List Jvm.Cond) (a1 : Addr) (cs : List Int32) (cs0 : Int32) (i : Nat) (v1 : Addr) (kv : ClassId) (nn : Nat) (ml : Int32) (fm : Value) (h0 : Heap) (n0 : Nat) (O0 : Old Z n0 h0) (S_CS : SCS Z cs0) (c_CS : ¬ (cs0 = (0 : Int32))) (S_FM : SFM Z fm) (r_FM : fm.isRef = true) (Eb : Exa Z h0 a1 "java/lang/StringBuilder") (Bv : Fld Z h0 a1 "java/lang/AbstractStringBuilder" "value" "[B" (.ref v1)) (Bc : Fld Z h0 a1 "java/lang/AbstractStringBuilder" "coder" "B" (.int 1)) (Bn : Fld Z h0 a1 "java/lang/AbstractStringBuilder" "count" "I" (.int (oN nn))) (Bm : Fld Z h0 a1 "java/lang/AbstractStringBuilder" "maybeLatin1" "Z" (.int ml)) (Vb : Arv Z h0 v1 kv .byte (oN (2 * (nn + 16))) (u16 cs) (.int 0)) (hnn : cs.length = nn) (hM : nn ≤ 4) (hi : i < nn) (hcs : ∀ c ∈ cs, ¬ c < 0 ∧ ¬ (65535 : Int32) < c) (S_AD : SAD Z) (S_HI : SHI Z) (S_LO : SLO Z) :
  MF l mN38 jdk_68_method_14_code 5 (some .char) ws (Rm 2 0 0 50) Z #[(.ref a1), (.int (oN i))] h0 (Q_rmAcU Z a1 cs cs0 i v1 kv nn ml fm h0 n0) := by
 refine MetFree.of_bodySF (plainFor_of_name pn_7) hisR ?_
 intro p e s m args below meth c s₁ Bd hml0 hP hK
 obtain ⟨rfl, hZ, hh⟩ := hP
 have hx := Bd.exec
 have hby := Bd.bytes
 have hml : c.maxLocals = 5 := hml0
 have hown : s.vm.findClass "java/lang/AbstractStringBuilder" = some m.cls := findClass_of_methodNamed Bd.named
 have X0 : Stand p l e (Rm 2 0 0 50) s m #[(.ref a1), (.int (oN i))] below meth c s₁ [] 0 0 := Stand.of_body Bd
 have e0 : s₁.heap = h0 := by rw [← hh, Bd.state]; rfl
 have N0 := Fr.nil n0
 have hn0 : n0 ≤ h0.size := O0.1 ▸ O0.2.1
 have pre0 : ∀ t, SS p e below s₁ m 0 #[vR a1, vI (oN i), .unset, .unset, .unset] [] t → SE p e below s₁ m #[(.ref a1), (.int (oN i))] 5 t := fun t k => castTop (ef_rmAcU m a1 ((oN i))) k
 have hi1 : i < cs.length := by omega
 have hi2 : i < (lat cs).length := by rw [lat_len]; omega
 obtain ⟨T101, X101, e101, st101⟩ := getF X0 hx hZ hown (host := "") (Or.inl (tw hw 57 rfl)) Via.refl e0 Bc (g := (mkF m 1 #[vR a1, vI (oN i), .unset, .unset, .unset] [(.ref a1)])) rfl rfl (hb hby d33_1)
 obtain ⟨T102, X102, e102, st102⟩ := getF X101 hx hZ hown (host := "") (Or.inl (tw hw 59 rfl)) Via.refl e101 Bv (g := (mkF m 6 #[vR a1, vI (oN i), vI 1, .unset, .unset] [(.ref a1)])) rfl rfl (hb hby d33_6)
 obtain ⟨T103, X103, e103, st103⟩ := getF X102 hx hZ hown (host := "") (Or.inl (tw hw 75 rfl)) Via.refl e102 Bn (g := (mkF m 11 #[vR a1, vI (oN i), vI 1, vR v1, .unset] [(.ref a1)])) rfl rfl (hb hby d33_11)
 obtain ⟨cl104, Ar104, q104, S104, Nn104, H104, G104⟩ := id Vb
 have hr105 : ((oN (2 * (nn + 16))) >>> ((1 : Int32) &&& 31)) = (oN (nn + 16)) := own_shr1 (by omega)
 obtain ⟨_, _, ⟨T106, L106, k106, n106⟩, -, X106, ⟨Lc106, hQ106, l106, y106, z106⟩, st106⟩ := Jvm.LawKit.callS X103 hx (y := mN13) hown (mvT hZ (tw hw 173 rfl)) (mvT hZ (tw hw 146 rfl)) (mvT hZ (tw hw 147 rfl)) (mvT hZ (tw hw 148 rfl)) (by decide) (backOf (W := 0) (rmMmin l Z a0 hw [] (oN nn) (oN (nn + 16))  h0 n0 O0 ) hZ (tw hw 148 rfl) (tw hw 147 rfl) (by decide) (by decide)) (g := (mkF m 18 #[vR a1, vI (oN i), vI 1, vR v1, .unset] [(.int (oN (nn + 16))), (.int (oN nn))])) rfl (by rw [hml]; rfl) (argsL := [(.int (oN nn)), (.int (oN (nn + 16)))]) (rest := []) (lenOf pd_21 rfl) rfl (wL _) (hb hby d33_18) (fun _ _ => ⟨rfl, e103, (by decide : 0 + 0 ≤ _), (by decide : 0 + 0 ≤ _)⟩)
 dsimp only [Pt.U, Pt.locs, Pt.cells, Pt.slots] at X106 l106 y106 z106 st106 hQ106
 subst l106 y106 z106
 obtain ⟨rfl, N106q, H106⟩ := hQ106
 have N106 := Fr.app N0 N106q
 have hr107 : (jmin (oN nn) (oN (nn + 16))) = (oN nn) := own_jmin (by omega) (by omega)
 obtain ⟨_, _, ⟨T108, L108, k108, n108⟩, -, X108, ⟨Lc108, hQ108, l108, y108, z108⟩, st108⟩ := Jvm.LawKit.callS X106 hx (y := mN18) hown (mvT hZ (tw hw 174 rfl)) (mvT hZ (tw hw 175 rfl)) (mvT hZ (tw hw 8 rfl)) (mvT hZ (tw hw 176 rfl)) (by decide) (backOf (W := 0) (rmCi l Z a0 hw [] (oN i) (oN nn) fm h0 n0 O0 S_FM r_FM (own_nn (by omega)) ((own_lt (by omega) (by omega)).mpr (by omega))) hZ (tw hw 176 rfl) (tw hw 8 rfl) (by decide) (by decide)) (g := (mkF m 26 #[vR a1, vI (oN i), vI 1, vR v1, vI (oN nn)] [(.int (oN nn)), (.int (oN i))])) rfl (by rw [hml]; rfl) (argsL := [(.int (oN i)), (.int (oN nn))]) (rest := []) (lenOf pd_20 rfl) rfl (wL _) (hb hby d33_26) (fun _ _ => ⟨rfl, H106, (by decide : 0 + 0 ≤ _), (by decide : 0 + 0 ≤ _)⟩)
 dsimp only [Pt.U, Pt.locs, Pt.cells, Pt.slots] at X108 l108 y108 z108 st108 hQ108
 subst l108 y108 z108
 obtain ⟨rfl, N108q, H108⟩ := hQ108
 have N108 := Fr.app N106 N108q
 obtain ⟨_, _, ⟨T109, L109, k109, n109⟩, -, X109, ⟨Lc109, hQ109, l109, y109, z109⟩, st109⟩ := Jvm.LawKit.callS X108 hx (y := mN0) hown (mvT hZ (tw hw 240 rfl)) (mvT hZ (tw hw 237 rfl)) (mvT hZ (tw hw 156 rfl)) (mvT hZ (tw hw 238 rfl)) (by decide) (backOf (W := 0) (rmGetChar l Z a0 hw [] v1 i kv (oN (2 * (nn + 16))) (u16 cs) ((cs.getD i 0).toInt8.toInt32) (((cs.getD i 0) >>> ((8 : Int32) &&& 31)).toInt8.toInt32) h0 n0 O0 S_AD S_HI S_LO Vb (by omega) ((own_lt (by omega) (by omega)).mpr (by omega)) ((own_lt (by omega) (by omega)).mpr (by omega)) (u16_get cs hi1).1 (u16_get cs hi1).2) hZ (tw hw 238 rfl) (tw hw 156 rfl) (by decide) (by decide)) (g := (mkF m 44 #[vR a1, vI (oN i), vI 1, vR v1, vI (oN nn)] [(.int (oN i)), (.ref v1)])) rfl (by rw [hml]; rfl) (argsL := [(.ref v1), (.int (oN i))]) (rest := []) (lenOf pd_31 rfl) rfl (wL _) (hb hby d33_44) (fun _ _ => ⟨rfl, H108, (by decide : 0 + 0 ≤ _), (by decide : 0 + 0 ≤ _)⟩)
 dsimp only [Pt.U, Pt.locs, Pt.cells, Pt.slots] at X109 l109 y109 z109 st109 hQ109
 subst l109 y109 z109
 obtain ⟨rfl, N109q, H109⟩ := hQ109
 have N109 := Fr.app N108 N109q
 have hr110 : (StrChars.pairCh (StrChars.lo8 (cs.getD i 0)) (StrChars.hi8 (cs.getD i 0))) = (cs.getD i 0) := StrChars.pair_says (own_rng hcs hi1).1 (own_rng hcs hi1).2
 obtain ⟨fs, hr, hrun, hended, hW, hsame⟩ := X109.leave (v := some (.int (nar .char (cs.getD i 0)))) (nvr Bd.returns)
 refine ⟨_, _, pre0 _ ?_, hrun, hended, _, _, rfl, ?_, ⟨_, rfl⟩, hW, hsame.mono (by decide) (by decide)⟩
 ·skip
  show SS p e below s₁ m 0 #[vR a1, vI (oN i), .unset, .unset, .unset] [] _
  refine XS.aloadN X0.here hx rfl (hb hby d33_0) rfl rfl ?_
  show SS p e below s₁ m 1 #[vR a1, vI (oN i), .unset, .unset, .unset] [(.ref a1)] _
  refine st101 _ ?_
  refine XS.istoreN X101.here hx rfl (hb hby d33_4) rfl (l' := #[vR a1, vI (oN i), vI 1, .unset, .unset]) rfl ?_
  refine XS.aloadN X101.here hx rfl (hb hby d33_5) rfl rfl ?_
  show SS p e below T101 m 6 #[vR a1, vI (oN i), vI 1, .unset, .unset] [(.ref a1)] _
  refine st102 _ ?_
  refine XS.astoreN X102.here hx rfl (hb hby d33_9) rfl rfl (l' := #[vR a1, vI (oN i), vI 1, vR v1, .unset]) rfl ?_
  refine XS.aloadN X102.here hx rfl (hb hby d33_10) rfl rfl ?_
  show SS p e below T102 m 11 #[vR a1, vI (oN i), vI 1, vR v1, .unset] [(.ref a1)] _
  refine st103 _ ?_
  refine XS.aloadN X103.here hx rfl (hb hby d33_14) rfl rfl ?_
  show SS p e below T103 m 15 #[vR a1, vI (oN i), vI 1, vR v1, .unset] [(.ref v1), (.int (oN nn))] _
  refine X103.arraylength hx (by rw [e103]; exact Ar104.1) (State.isArrayOf_alike hZ.alike Ar104.2.1) (g := (mkF m 15 #[vR a1, vI (oN i), vI 1, vR v1, .unset] [(.ref v1), (.int (oN nn))])) rfl rfl (hb hby d33_15) _ ?_
  rw [len_of S104 Nn104]
  refine XS.iloadN X103.here hx rfl (hb hby d33_16) rfl ?_
  show SS p e below T103 m 17 #[vR a1, vI (oN i), vI 1, vR v1, .unset] [(.int 1), (.int (oN (2 * (nn + 16)))), (.int (oN nn))] _
  refine XS.ishr X103.here hx rfl (hb hby d33_17) rfl ?_
  show SS p e below T103 m 18 #[vR a1, vI (oN i), vI 1, vR v1, .unset] [(.int ((oN (2 * (nn + 16))) >>> ((1 : Int32) &&& 31))), (.int (oN nn))] _
  rw [hr105]
  show SS p e below T103 m 18 #[vR a1, vI (oN i), vI 1, vR v1, .unset] [(.int (oN (nn + 16))), (.int (oN nn))] _
  refine st106 _ ?_
  show SS p e below T106 m 21 #[vR a1, vI (oN i), vI 1, vR v1, .unset] [(.int (jmin (oN nn) (oN (nn + 16))))] _
  rw [hr107]
  refine XS.istore X106.here hx rfl (hb hby d33_21) rfl (l' := #[vR a1, vI (oN i), vI 1, vR v1, vI (oN nn)]) rfl ?_
  refine XS.iloadN X106.here hx rfl (hb hby d33_23) rfl ?_
  refine XS.iload X106.here hx rfl (hb hby d33_24) rfl ?_
  show SS p e below T106 m 26 #[vR a1, vI (oN i), vI 1, vR v1, vI (oN nn)] [(.int (oN nn)), (.int (oN i))] _
  refine st108 _ ?_
  refine XS.iloadN X108.here hx rfl (hb hby d33_29) rfl ?_
  refine XS.ifYes X108.here hx rfl (pc0 := 30) (pc' := 42) rfl (hb hby d33_30) rfl ((if0 _ _).trans (feq (by decide : ¬ ((1 : Int32) = (0 : Int32)))).2) (by decide) (by decide) ?_
  refine XS.aloadN X108.here hx rfl (hb hby d33_42) rfl rfl ?_
  refine XS.iloadN X108.here hx rfl (hb hby d33_43) rfl ?_
  show SS p e below T108 m 44 #[vR a1, vI (oN i), vI 1, vR v1, vI (oN nn)] [(.int (oN i)), (.ref v1)] _
  refine st109 _ ?_
  show SS p e below T109 m 47 #[vR a1, vI (oN i), vI 1, vR v1, vI (oN nn)] [(.int (StrChars.pairCh (StrChars.lo8 (cs.getD i 0)) (StrChars.hi8 (cs.getD i 0))))] _
  rw [hr110]
  show SS p e below T109 m 47 #[vR a1, vI (oN i), vI 1, vR v1, vI (oN nn)] [(.int (cs.getD i 0))] _
  exact retN X109 hx (t := .char) Bd.returns (by simp) (hb hby d33_47) hr
 ·show Q_rmAcU Z a1 cs cs0 i v1 kv nn ml fm h0 n0 _ T109.heap _
  rw [H109]
  exact ⟨congrArg (fun z => some (Value.int z)) (own_nc (hcs _ (own_getmem hi1))), N109, rfl⟩
theorem ef_rmBcU (m : MethodId) (y0 : Addr) (y1 : Int32) : entryFrame m #[(.ref y0), (.int y1)] 2 = (mkF m 0 #[vR y0, vI y1] []) := by first | (simp [entryFrame, mkF, argsToLocals, Value.category]; done) | rfl
def Q_rmBcU (Z : State) (a1 : Addr) (cs : List Int32) (cs0 : Int32) (i : Nat) (v1 : Addr) (kv : ClassId) (nn : Nat) (ml : Int32) (fm : Value) (h0 : Heap) (n0 : Nat) (v : Option Value) (h : Heap) (L : List Loc) : Prop := v = some (.int (cs.getD i 0)) ∧ Fr n0 L ∧ h = h0
theorem rmBcU (l : Launch) (Z : State) (a0 : Array Value) (hw : HW a0 Z) (ws : List Jvm.Cond) (a1 : Addr) (cs : List Int32) (cs0 : Int32) (i : Nat) (v1 : Addr) (kv : ClassId) (nn : Nat) (ml : Int32) (fm : Value) (h0 : Heap) (n0 : Nat) (O0 : Old Z n0 h0) (S_CS : SCS Z cs0) (c_CS : ¬ (cs0 = (0 : Int32))) (S_FM : SFM Z fm) (r_FM : fm.isRef = true) (Eb : Exa Z h0 a1 "java/lang/StringBuilder") (Bv : Fld Z h0 a1 "java/lang/AbstractStringBuilder" "value" "[B" (.ref v1)) (Bc : Fld Z h0 a1 "java/lang/AbstractStringBuilder" "coder" "B" (.int 1)) (Bn : Fld Z h0 a1 "java/lang/AbstractStringBuilder" "count" "I" (.int (oN nn))) (Bm : Fld Z h0 a1 "java/lang/AbstractStringBuilder" "maybeLatin1" "Z" (.int ml)) (Vb : Arv Z h0 v1 kv .byte (oN (2 * (nn + 16))) (u16 cs) (.int 0)) (hnn : cs.length = nn) (hM : nn ≤ 4) (hi : i < nn) (hcs : ∀ c ∈ cs, ¬ c < 0 ∧ ¬ (65535 : Int32) < c) (S_AD : SAD Z) (S_HI : SHI Z) (S_LO : SLO Z) :
  MF l mN39 jdk_67_method_88_code 2 (some .char) ws (Rm 3 0 0 70) Z #[(.ref a1), (.int (oN i))] h0 (Q_rmBcU Z a1 cs cs0 i v1 kv nn ml fm h0 n0) := by
 refine MetFree.of_bodySF (plainFor_of_name pn_6) hisR ?_
 intro p e s m args below meth c s₁ Bd hml0 hP hK
 obtain ⟨rfl, hZ, hh⟩ := hP
 have hx := Bd.exec
 have hby := Bd.bytes
 have hml : c.maxLocals = 2 := hml0
 have hown : s.vm.findClass "java/lang/StringBuilder" = some m.cls := findClass_of_methodNamed Bd.named
 have X0 : Stand p l e (Rm 3 0 0 70) s m #[(.ref a1), (.int (oN i))] below meth c s₁ [] 0 0 := Stand.of_body Bd
 have e0 : s₁.heap = h0 := by rw [← hh, Bd.state]; rfl
 have N0 := Fr.nil n0
 have hn0 : n0 ≤ h0.size := O0.1 ▸ O0.2.1
 have pre0 : ∀ t, SS p e below s₁ m 0 #[vR a1, vI (oN i)] [] t → SE p e below s₁ m #[(.ref a1), (.int (oN i))] 2 t := fun t k => castTop (ef_rmBcU m a1 ((oN i))) k
 have hi1 : i < cs.length := by omega
 have hi2 : i < (lat cs).length := by rw [lat_len]; omega
 obtain ⟨_, _, ⟨T101, L101, k101, n101⟩, -, X101, ⟨Lc101, hQ101, l101, y101, z101⟩, st101⟩ := superBack X0 hx hZ hown (tw hw 169 rfl) (own_same (tw hw 170 rfl) (own_nface (a0 := a0) (y := mN38) (tw hw 80 rfl) rfl) (by decide)) (tw hw 170 rfl) (tw hw 73 rfl) (by decide) (backOf (W := 0) (rmAcU l Z a0 hw [] a1 cs cs0 i v1 kv nn ml fm h0 n0 O0 S_CS c_CS S_FM r_FM Eb Bv Bc Bn Bm Vb hnn hM hi hcs S_AD S_HI S_LO) hZ (tw hw 172 rfl) (tw hw 41 rfl) (by decide) (by decide)) e0 (Ins.self Eb) (g := (mkF m 2 #[vR a1, vI (oN i)] [(.int (oN i)), (.ref a1)])) rfl (by rw [hml]; rfl) (tw hw 172 rfl) (a := a1) (argsL := [(.int (oN i))]) (rest := []) (lenOf pd_26 rfl) rfl (wL _) (hb hby d32_2) (fun _ _ => ⟨rfl, e0, (by decide : 0 + 0 ≤ _), (by decide : 0 + 0 ≤ _)⟩)
 dsimp only [Pt.U, Pt.locs, Pt.cells, Pt.slots] at X101 l101 y101 z101 st101 hQ101
 subst l101 y101 z101
 obtain ⟨rfl, N101q, H101⟩ := hQ101
 have N101 := Fr.app N0 N101q
 obtain ⟨fs, hr, hrun, hended, hW, hsame⟩ := X101.leave (v := some (.int (nar .char (cs.getD i 0)))) (nvr Bd.returns)
 refine ⟨_, _, pre0 _ ?_, hrun, hended, _, _, rfl, ?_, ⟨_, rfl⟩, hW, hsame.mono (by decide) (by decide)⟩
 ·skip
  show SS p e below s₁ m 0 #[vR a1, vI (oN i)] [] _
  refine XS.aloadN X0.here hx rfl (hb hby d32_0) rfl rfl ?_
  refine XS.iloadN X0.here hx rfl (hb hby d32_1) rfl ?_
  show SS p e below s₁ m 2 #[vR a1, vI (oN i)] [(.int (oN i)), (.ref a1)] _
  refine st101.trans ?_
  show SS p e below T101 m 5 #[vR a1, vI (oN i)] [(.int (cs.getD i 0))] _
  exact retN X101 hx (t := .char) Bd.returns (by simp) (hb hby d32_5) hr
 ·show Q_rmBcU Z a1 cs cs0 i v1 kv nn ml fm h0 n0 _ T101.heap _
  rw [H101]
  exact ⟨congrArg (fun z => some (Value.int z)) (own_nc (hcs _ (own_getmem hi1))), N101, rfl⟩
theorem d39_33 : DK cD40 33 (.aload_n 0) 1 := by decide +kernel
theorem d39_34 : DK cD40 34 (.invokevirtual 83) 3 := by decide +kernel
theorem d39_37 : DK cD40 37 (.ifCond .eq 7) 3 := by decide +kernel
theorem d39_44 : DK cD40 44 (.aload_n 0) 1 := by decide +kernel
theorem d39_45 : DK cD40 45 (.getfield 15) 3 := by decide +kernel
theorem d39_48 : DK cD40 48 (.iload_n 1) 1 := by decide +kernel
theorem d39_49 : DK cD40 49 (.iload_n 2) 1 := by decide +kernel
theorem d39_50 : DK cD40 50 (.invokestatic 197) 3 := by decide +kernel
theorem d39_53 : DK cD40 53 (.aload_n 0) 1 := by decide +kernel
theorem d39_54 : DK cD40 54 (.iconst 1) 1 := by decide +kernel
theorem d39_55 : DK cD40 55 (.putfield 73) 3 := by decide +kernel
theorem ef_rmScU (m : MethodId) (y0 : Addr) (y1 : Int32) : entryFrame m #[(.ref y0), (.int y1), (.int 63)] 3 = (mkF m 0 #[vR y0, vI y1, vI 63] []) := by first | (simp [entryFrame, mkF, argsToLocals, Value.category]; done) | rfl
def Q_rmScU (Z : State) (a1 : Addr) (cs : List Int32) (cs0 : Int32) (i : Nat) (v1 : Addr) (kv : ClassId) (nn : Nat) (ml : Int32) (fm : Value) (h0 : Heap) (n0 : Nat) (v : Option Value) (h : Heap) (L : List Loc) : Prop := ∃ ml' : Int32, v = none ∧ Fr n0 L ∧ Keep h0 h [a1, v1] ∧ Exa Z h a1 "java/lang/StringBuilder" ∧ Fld Z h a1 "java/lang/AbstractStringBuilder" "value" "[B" (.ref v1) ∧ Fld Z h a1 "java/lang/AbstractStringBuilder" "coder" "B" (.int 1) ∧ Fld Z h a1 "java/lang/AbstractStringBuilder" "count" "I" (.int (oN nn)) ∧ Fld Z h a1 "java/lang/AbstractStringBuilder" "maybeLatin1" "Z" (.int ml') ∧ Arv Z h v1 kv .byte (oN (2 * (nn + 16))) (u16 (cs.set i (63 : Int32))) (.int 0)
theorem rmScU (l : Launch) (Z : State) (a0 : Array Value) (hw : HW a0 Z) (ws : List Jvm.Cond) (a1 : Addr) (cs : List Int32) (cs0 : Int32) (i : Nat) (v1 : Addr) (kv : ClassId) (nn : Nat) (ml : Int32) (fm : Value) (h0 : Heap) (n0 : Nat) (O0 : Old Z n0 h0) (S_CS : SCS Z cs0) (c_CS : ¬ (cs0 = (0 : Int32))) (S_FM : SFM Z fm) (r_FM : fm.isRef = true) (Eb : Exa Z h0 a1 "java/lang/StringBuilder") (Bv : Fld Z h0 a1 "java/lang/AbstractStringBuilder" "value" "[B" (.ref v1)) (Bc : Fld Z h0 a1 "java/lang/AbstractStringBuilder" "coder" "B" (.int 1)) (Bn : Fld Z h0 a1 "java/lang/AbstractStringBuilder" "count" "I" (.int (oN nn))) (Bm : Fld Z h0 a1 "java/lang/AbstractStringBuilder" "maybeLatin1" "Z" (.int ml)) (Vb : Arv Z h0 v1 kv .byte (oN (2 * (nn + 16))) (u16 cs) (.int 0)) (hnn : cs.length = nn) (hM : nn ≤ 4) (hi : i < nn) (hcs : ∀ c ∈ cs, ¬ c < 0 ∧ ¬ (65535 : Int32) < c) (S_AD : SAD Z) (S_HI : SHI Z) (S_LO : SLO Z) (g1 : n0 ≤ a1) (gv : n0 ≤ v1) (nv1 : @Ne Nat v1 a1) :
  MF l mN40 jdk_68_method_20_code 3 none ws (Rm 4 0 0 90) Z #[(.ref a1), (.int (oN i)), (.int 63)] h0 (Q_rmScU Z a1 cs cs0 i v1 kv nn ml fm h0 n0) := by
 refine MetFree.of_bodySF (plainFor_of_name pn_7) hisR ?_
 intro p e s m args below meth c s₁ Bd hml0 hP hK
 obtain ⟨rfl, hZ, hh⟩ := hP
 have hx := Bd.exec
 have hby := Bd.bytes
 have hml : c.maxLocals = 3 := hml0
 have hown : s.vm.findClass "java/lang/AbstractStringBuilder" = some m.cls := findClass_of_methodNamed Bd.named
 have X0 : Stand p l e (Rm 4 0 0 90) s m #[(.ref a1), (.int (oN i)), (.int 63)] below meth c s₁ [] 0 0 := Stand.of_body Bd
 have e0 : s₁.heap = h0 := by rw [← hh, Bd.state]; rfl
 have N0 := Fr.nil n0
 have hn0 : n0 ≤ h0.size := O0.1 ▸ O0.2.1
 have pre0 : ∀ t, SS p e below s₁ m 0 #[vR a1, vI (oN i), vI 63] [] t → SE p e below s₁ m #[(.ref a1), (.int (oN i)), (.int 63)] 3 t := fun t k => castTop (ef_rmScU m a1 ((oN i))) k
 have hi1 : i < cs.length := by omega
 have hi2 : i < (lat cs).length := by rw [lat_len]; omega
 have lt_a1 : @LT.lt Nat _ a1 h0.size := Eb.lt
 have lt_v1 : @LT.lt Nat _ v1 h0.size := Vb.lt
 obtain ⟨T101, X101, e101, st101⟩ := getF X0 hx hZ hown (host := "") (Or.inl (tw hw 75 rfl)) Via.refl e0 Bn (g := (mkF m 2 #[vR a1, vI (oN i), vI 63] [(.ref a1), (.int (oN i))])) rfl rfl (hb hby d39_2)
 obtain ⟨_, _, ⟨T102, L102, k102, n102⟩, -, X102, ⟨Lc102, hQ102, l102, y102, z102⟩, st102⟩ := Jvm.LawKit.callS X101 hx (y := mN18) hown (mvT hZ (tw hw 174 rfl)) (mvT hZ (tw hw 175 rfl)) (mvT hZ (tw hw 8 rfl)) (mvT hZ (tw hw 176 rfl)) (by decide) (backOf (W := 0) (rmCi l Z a0 hw [] (oN i) (oN nn) fm h0 n0 O0 S_FM r_FM (own_nn (by omega)) ((own_lt (by omega) (by omega)).mpr (by omega))) hZ (tw hw 176 rfl) (tw hw 8 rfl) (by decide) (by decide)) (g := (mkF m 5 #[vR a1, vI (oN i), vI 63] [(.int (oN nn)), (.int (oN i))])) rfl (by rw [hml]; rfl) (argsL := [(.int (oN i)), (.int (oN nn))]) (rest := []) (lenOf pd_20 rfl) rfl (wL _) (hb hby d39_5) (fun _ _ => ⟨rfl, e101, (by decide : 0 + 0 ≤ _), (by decide : 0 + 0 ≤ _)⟩)
 dsimp only [Pt.U, Pt.locs, Pt.cells, Pt.slots] at X102 l102 y102 z102 st102 hQ102
 subst l102 y102 z102
 obtain ⟨rfl, N102q, H102⟩ := hQ102
 have N102 := Fr.app N0 N102q
 obtain ⟨cq103, kq103, q103a, q103b, q103c⟩ := isOf hZ H102 Eb
 obtain ⟨_, _, ⟨T103, L103, k103, n103⟩, -, X103, ⟨Lc103, hQ103, l103, y103, z103⟩, st103⟩ := X102.virtualBack hx (y := mN19) (z := mN19) hown (mvT hZ (tw hw 198 rfl)) (mvT hZ (tw hw 131 rfl)) (notFace_of_selects (args := #[]) (mvT hZ (tw hw 133 rfl))) (mvT hZ (tw hw 133 rfl)) (mvT hZ (tw hw 132 rfl)) (by decide) (backOf (W := 0) (rmBLatU l Z a0 hw [] a1 cs cs0 v1 kv nn ml h0 n0 O0 S_CS c_CS Eb Bv Bc Bn Bm Vb) hZ (tw hw 134 rfl) (tw hw 41 rfl) (by decide) (by decide)) q103a q103c (g := (mkF m 9 #[vR a1, vI (oN i), vI 63] [(.ref a1)])) rfl (by rw [hml]; rfl) (Steps.refl _) (argsL := []) (rest := []) (lenOf pd_18 rfl) rfl (wL _) (hb hby d39_9) (fun _ _ => ⟨rfl, H102, (by decide : 0 + 0 ≤ _), (by decide : 0 + 0 ≤ _)⟩)
 dsimp only [Pt.U, Pt.locs, Pt.cells, Pt.slots] at X103 l103 y103 z103 st103 hQ103
 subst l103 y103 z103
 obtain ⟨rfl, N103q, H103⟩ := hQ103
 have N103 := Fr.app N102 N103q
 obtain ⟨cq104, kq104, q104a, q104b, q104c⟩ := isOf hZ H103 Eb
 obtain ⟨_, _, ⟨T104, L104, k104, n104⟩, -, X104, ⟨Lc104, hQ104, l104, y104, z104⟩, st104⟩ := X103.virtualBack hx (y := mN19) (z := mN19) hown (mvT hZ (tw hw 198 rfl)) (mvT hZ (tw hw 131 rfl)) (notFace_of_selects (args := #[]) (mvT hZ (tw hw 133 rfl))) (mvT hZ (tw hw 133 rfl)) (mvT hZ (tw hw 132 rfl)) (by decide) (backOf (W := 0) (rmBLatU l Z a0 hw [] a1 cs cs0 v1 kv nn ml h0 n0 O0 S_CS c_CS Eb Bv Bc Bn Bm Vb) hZ (tw hw 134 rfl) (tw hw 41 rfl) (by decide) (by decide)) q104a q104c (g := (mkF m 34 #[vR a1, vI (oN i), vI 63] [(.ref a1)])) rfl (by rw [hml]; rfl) (Steps.refl _) (argsL := []) (rest := []) (lenOf pd_18 rfl) rfl (wL _) (hb hby d39_34) (fun _ _ => ⟨rfl, H103, (by decide : 0 + 0 ≤ _), (by decide : 0 + 0 ≤ _)⟩)
 dsimp only [Pt.U, Pt.locs, Pt.cells, Pt.slots] at X104 l104 y104 z104 st104 hQ104
 subst l104 y104 z104
 obtain ⟨rfl, N104q, H104⟩ := hQ104
 have N104 := Fr.app N103 N104q
 obtain ⟨T105, X105, e105, st105⟩ := getF X104 hx hZ hown (host := "") (Or.inl (tw hw 59 rfl)) Via.refl H104 Bv (g := (mkF m 45 #[vR a1, vI (oN i), vI 63] [(.ref a1)])) rfl rfl (hb hby d39_45)
 obtain ⟨_, _, ⟨T106, L106, k106, n106⟩, -, X106, ⟨Lc106, hQ106, l106, y106, z106⟩, st106⟩ := Jvm.LawKit.callS X105 hx (y := mN34) hown (mvT hZ (tw hw 253 rfl)) (mvT hZ (tw hw 254 rfl)) (mvT hZ (tw hw 156 rfl)) (mvT hZ (tw hw 255 rfl)) (by decide) (backOf (W := 0) (rmPsb l Z a0 hw [] v1 i cs (nn + 16) kv fm h0 n0 O0 S_FM r_FM S_AD S_HI S_LO (by omega : @LE.le Nat _ n0 v1) Vb (by omega) (by omega) (by omega)) hZ (tw hw 255 rfl) (tw hw 156 rfl) (by decide) (by decide)) (g := (mkF m 50 #[vR a1, vI (oN i), vI 63] [(.int 63), (.int (oN i)), (.ref v1)])) rfl (by rw [hml]; rfl) (argsL := [(.ref v1), (.int (oN i)), (.int 63)]) (rest := []) (lenOf pd_35 rfl) rfl (wL _) (hb hby d39_50) (fun _ _ => ⟨rfl, e105, (by decide : 0 + 0 ≤ _), (by decide : 0 + 0 ≤ _)⟩)
 dsimp only [Pt.U, Pt.locs, Pt.cells, Pt.slots] at X106 l106 y106 z106 st106 hQ106
 subst l106 y106 z106
 obtain ⟨rfl, N106q, K106, V106⟩ := hQ106
 have sz1_K106 := K106.1
 have N106 := Fr.app N104 N106q
 have C107 := Eb.keep K106
 have C108 := Bm.keep K106 (ninS (by omega : @Ne Nat a1 v1) (nin0))
 obtain ⟨T109, h109, X109, e109, W109, st109⟩ := putFN X106 hx hZ hown (tw hw 256 rfl) Via.refl rfl C108 C107 (Or.inl (tw hw 242 rfl)) (tw hw 32 rfl) (ty := .boolean) (v' := (.int 1)) (by decide) rfl rfl (g := (mkF m 55 #[vR a1, vI (oN i), vI 63] [(.int 1), (.ref a1)])) rfl rfl (hb hby d39_55)
 have K109 := Keep.of_wr W109
 have Fw109 := Fld.same W109 C108
 have N109 := Fr.snoc X109 N106 (by omega : @LE.le Nat _ n0 a1)
 have sz2_K109 := K109.1
 have KC110 : Keep h0 T106.heap [a1, v1] := (Keep.refl h0 [a1, v1]).trans K106 (allS (Or.inl (List.mem_of_getElem? (i := 1) rfl)) (all0))
 have KC111 : Keep h0 h109 [a1, v1] := KC110.trans K109 (allS (Or.inl (List.mem_of_getElem? (i := 0) rfl)) (all0))
 have C112 := C107.keep K109
 have C113 := Bv.keep K106 (ninS (by omega : @Ne Nat a1 v1) (nin0))
 have C114 := Fld.other W109 C113 (Or.inr (slot_ne (Or.inl (tw hw 60 rfl)) (Or.inl (tw hw 242 rfl)) (by decide) (t := (.array .byte)) (t' := .boolean) (by decide) (by decide)))
 have C115 := Bc.keep K106 (ninS (by omega : @Ne Nat a1 v1) (nin0))
 have C116 := Fld.other W109 C115 (Or.inr (slot_ne (Or.inl (tw hw 58 rfl)) (Or.inl (tw hw 242 rfl)) (by decide) (t := .byte) (t' := .boolean) (by decide) (by decide)))
 have C117 := Bn.keep K106 (ninS (by omega : @Ne Nat a1 v1) (nin0))
 have C118 := Fld.other W109 C117 (Or.inr (slot_ne (Or.inl (tw hw 76 rfl)) (Or.inl (tw hw 242 rfl)) (by decide) (t := .int) (t' := .boolean) (by decide) (by decide)))
 have C119 := V106.keep K109 (ninS (by omega : @Ne Nat v1 a1) (nin0))
 obtain ⟨fs, hr, hrun, hended, hW, hsame⟩ := X109.leave (v := none) (fun _ => rfl)
 refine ⟨_, _, pre0 _ ?_, hrun, hended, _, _, rfl, ?_, ⟨_, rfl⟩, hW, hsame.mono (by decide) (by decide)⟩
 ·skip
  show SS p e below s₁ m 0 #[vR a1, vI (oN i), vI 63] [] _
  refine XS.iloadN X0.here hx rfl (hb hby d39_0) rfl ?_
  refine XS.aloadN X0.here hx rfl (hb hby d39_1) rfl rfl ?_
  show SS p e below s₁ m 2 #[vR a1, vI (oN i), vI 63] [(.ref a1), (.int (oN i))] _
  refine st101 _ ?_
  show SS p e below T101 m 5 #[vR a1, vI (oN i), vI 63] [(.int (oN nn)), (.int (oN i))] _
  refine st102 _ ?_
  refine XS.aloadN X102.here hx rfl (hb hby d39_8) rfl rfl ?_
  show SS p e below T102 m 9 #[vR a1, vI (oN i), vI 63] [(.ref a1)] _
  refine st103.trans ?_
  refine XS.ifYes X103.here hx rfl (pc0 := 12) (pc' := 33) rfl (hb hby d39_12) rfl ((if0 _ _).trans (teq (by decide : (0 : Int32) = (0 : Int32))).1) (by decide) (by decide) ?_
  refine XS.aloadN X103.here hx rfl (hb hby d39_33) rfl rfl ?_
  show SS p e below T103 m 34 #[vR a1, vI (oN i), vI 63] [(.ref a1)] _
  refine st104.trans ?_
  refine XS.ifYes X104.here hx rfl (pc0 := 37) (pc' := 44) rfl (hb hby d39_37) rfl ((if0 _ _).trans (teq (by decide : (0 : Int32) = (0 : Int32))).1) (by decide) (by decide) ?_
  refine XS.aloadN X104.here hx rfl (hb hby d39_44) rfl rfl ?_
  show SS p e below T104 m 45 #[vR a1, vI (oN i), vI 63] [(.ref a1)] _
  refine st105 _ ?_
  refine XS.iloadN X105.here hx rfl (hb hby d39_48) rfl ?_
  refine XS.iloadN X105.here hx rfl (hb hby d39_49) rfl ?_
  show SS p e below T105 m 50 #[vR a1, vI (oN i), vI 63] [(.int 63), (.int (oN i)), (.ref v1)] _
  refine st106 _ ?_
  refine XS.aloadN X106.here hx rfl (hb hby d39_53) rfl rfl ?_
  refine XS.iconst X106.here hx rfl (hb hby d39_54) ?_
  show SS p e below T106 m 55 #[vR a1, vI (oN i), vI 63] [(.int 1), (.ref a1)] _
  refine st109 _ ?_
  show SS p e below T109 m 58 #[vR a1, vI (oN i), vI 63] [] _
  exact X109.returnOut hx Bd.returns (hb hby d39_58) hr
 ·show Q_rmScU Z a1 cs cs0 i v1 kv nn ml fm h0 n0 _ T109.heap _
  rw [e109]
  exact ⟨_, rfl, N109, KC111, C112, C114, C116, C118, Fw109, C119⟩
theorem ef_rmBsU (m : MethodId) (y0 : Addr) (y1 : Int32) : entryFrame m #[(.ref y0), (.int y1), (.int 63)] 3 = (mkF m 0 #[vR y0, vI y1, vI 63] []) := by first | (simp [entryFrame, mkF, argsToLocals, Value.category]; done) | rfl
def Q_rmBsU (Z : State) (a1 : Addr) (cs : List Int32) (cs0 : Int32) (i : Nat) (v1 : Addr) (kv : ClassId) (nn : Nat) (ml : Int32) (fm : Value) (h0 : Heap) (n0 : Nat) (v : Option Value) (h : Heap) (L : List Loc) : Prop := ∃ ml' : Int32, v = none ∧ Fr n0 L ∧ Keep h0 h [a1, v1] ∧ Exa Z h a1 "java/lang/StringBuilder" ∧ Fld Z h a1 "java/lang/AbstractStringBuilder" "value" "[B" (.ref v1) ∧ Fld Z h a1 "java/lang/AbstractStringBuilder" "coder" "B" (.int 1) ∧ Fld Z h a1 "java/lang/AbstractStringBuilder" "count" "I" (.int (oN nn)) ∧ Fld Z h a1 "java/lang/AbstractStringBuilder" "maybeLatin1" "Z" (.int ml') ∧ Arv Z h v1 kv .byte (oN (2 * (nn + 16))) (u16 (cs.set i (63 : Int32))) (.int 0)
theorem rmBsU (l : Launch) (Z : State) (a0 : Array Value) (hw : HW a0 Z) (ws : List Jvm.Cond) (a1 : Addr) (cs : List Int32) (cs0 : Int32) (i : Nat) (v1 : Addr) (kv : ClassId) (nn : Nat) (ml : Int32) (fm : Value) (h0 : Heap) (n0 : Nat) (O0 : Old Z n0 h0) (S_CS : SCS Z cs0) (c_CS : ¬ (cs0 = (0 : Int32))) (S_FM : SFM Z fm) (r_FM : fm.isRef = true) (Eb : Exa Z h0 a1 "java/lang/StringBuilder") (Bv : Fld Z h0 a1 "java/lang/AbstractStringBuilder" "value" "[B" (.ref v1)) (Bc : Fld Z h0 a1 "java/lang/AbstractStringBuilder" "coder" "B" (.int 1)) (Bn : Fld Z h0 a1 "java/lang/AbstractStringBuilder" "count" "I" (.int (oN nn))) (Bm : Fld Z h0 a1 "java/lang/AbstractStringBuilder" "maybeLatin1" "Z" (.int ml)) (Vb : Arv Z h0 v1 kv .byte (oN (2 * (nn + 16))) (u16 cs) (.int 0)) (hnn : cs.length = nn) (hM : nn ≤ 4) (hi : i < nn) (hcs : ∀ c ∈ cs, ¬ c < 0 ∧ ¬ (65535 : Int32) < c) (S_AD : SAD Z) (S_HI : SHI Z) (S_LO : SLO Z) (g1 : n0 ≤ a1) (gv : n0 ≤ v1) (nv1 : @Ne Nat v1 a1) :
  MF l mN41 jdk_67_method_82_code 3 none ws (Rm 5 0 0 120) Z #[(.ref a1), (.int (oN i)), (.int 63)] h0 (Q_rmBsU Z a1 cs cs0 i v1 kv nn ml fm h0 n0) := by
 refine MetFree.of_bodySF (plainFor_of_name pn_6) hisR ?_
 intro p e s m args below meth c s₁ Bd hml0 hP hK
 obtain ⟨rfl, hZ, hh⟩ := hP
 have hx := Bd.exec
 have hby := Bd.bytes
 have hml : c.maxLocals = 3 := hml0
 have hown : s.vm.findClass "java/lang/StringBuilder" = some m.cls := findClass_of_methodNamed Bd.named
 have X0 : Stand p l e (Rm 5 0 0 120) s m #[(.ref a1), (.int (oN i)), (.int 63)] below meth c s₁ [] 0 0 := Stand.of_body Bd
 have e0 : s₁.heap = h0 := by rw [← hh, Bd.state]; rfl
 have N0 := Fr.nil n0
 have hn0 : n0 ≤ h0.size := O0.1 ▸ O0.2.1
 have pre0 : ∀ t, SS p e below s₁ m 0 #[vR a1, vI (oN i), vI 63] [] t → SE p e below s₁ m #[(.ref a1), (.int (oN i)), (.int 63)] 3 t := fun t k => castTop (ef_rmBsU m a1 ((oN i))) k
 have hi1 : i < cs.length := by omega
 have hi2 : i < (lat cs).length := by rw [lat_len]; omega
 have lt_a1 : @LT.lt Nat _ a1 h0.size := Eb.lt
 have lt_v1 : @LT.lt Nat _ v1 h0.size := Vb.lt
 obtain ⟨_, _, ⟨T101, L101, k101, n101⟩, -, X101, ⟨Lc101, hQ101, l101, y101, z101⟩, st101⟩ := superBack X0 hx hZ hown (tw hw 194 rfl) (own_same (tw hw 195 rfl) (own_nface (a0 := a0) (y := mN40) (tw hw 80 rfl) rfl) (by decide)) (tw hw 195 rfl) (tw hw 73 rfl) (by decide) (backOf (W := 0) (rmScU l Z a0 hw [] a1 cs cs0 i v1 kv nn ml fm h0 n0 O0 S_CS c_CS S_FM r_FM Eb Bv Bc Bn Bm Vb hnn hM hi hcs S_AD S_HI S_LO (by omega : @LE.le Nat _ n0 a1) (by omega : @LE.le Nat _ n0 v1) (by omega)) hZ (tw hw 197 rfl) (tw hw 41 rfl) (by decide) (by decide)) e0 (Ins.self Eb) (g := (mkF m 3 #[vR a1, vI (oN i), vI 63] [(.int 63), (.int (oN i)), (.ref a1)])) rfl (by rw [hml]; rfl) (tw hw 197 rfl) (a := a1) (argsL := [(.int (oN i)), (.int 63)]) (rest := []) (lenOf pd_30 rfl) rfl (wL _) (hb hby d38_3) (fun _ _ => ⟨rfl, e0, (by decide : 0 + 0 ≤ _), (by decide : 0 + 0 ≤ _)⟩)
 dsimp only [Pt.U, Pt.locs, Pt.cells, Pt.slots] at X101 l101 y101 z101 st101 hQ101
 subst l101 y101 z101
 obtain ⟨ml101, rfl, N101q, K101, Eb101, Bv101, Bc101, Bn101, Bm101, Vb101⟩ := hQ101
 have sz1_K101 := K101.1
 have N101 := Fr.app N0 N101q
 have KC102 : Keep h0 T101.heap [a1, v1] := (Keep.refl h0 [a1, v1]).trans K101 (allS (Or.inl (List.mem_of_getElem? (i := 0) rfl)) (allS (Or.inl (List.mem_of_getElem? (i := 1) rfl)) (all0)))
 obtain ⟨fs, hr, hrun, hended, hW, hsame⟩ := X101.leave (v := none) (fun _ => rfl)
 refine ⟨_, _, pre0 _ ?_, hrun, hended, _, _, rfl, ?_, ⟨_, rfl⟩, hW, hsame.mono (by decide) (by decide)⟩
 ·skip
  show SS p e below s₁ m 0 #[vR a1, vI (oN i), vI 63] [] _
  refine XS.aloadN X0.here hx rfl (hb hby d38_0) rfl rfl ?_
  refine XS.iloadN X0.here hx rfl (hb hby d38_1) rfl ?_
  refine XS.iloadN X0.here hx rfl (hb hby d38_2) rfl ?_
  show SS p e below s₁ m 3 #[vR a1, vI (oN i), vI 63] [(.int 63), (.int (oN i)), (.ref a1)] _
  refine st101.trans ?_
  show SS p e below T101 m 6 #[vR a1, vI (oN i), vI 63] [] _
  exact X101.returnOut hx Bd.returns (hb hby d38_6) hr
 ·show Q_rmBsU Z a1 cs cs0 i v1 kv nn ml fm h0 n0 _ T101.heap _
  exact ⟨_, rfl, N101, KC102, Eb101, Bv101, Bc101, Bn101, Bm101, Vb101⟩
theorem d58_0 : DK cD42 0 (.iload_n 2) 1 := by decide +kernel
theorem d58_1 : DK cD42 1 (.iload_n 0) 1 := by decide +kernel
theorem d58_2 : DK cD42 2 (.ior) 1 := by decide +kernel
theorem d58_3 : DK cD42 3 (.iload_n 1) 1 := by decide +kernel
theorem d58_4 : DK cD42 4 (.ior) 1 := by decide +kernel
theorem d58_5 : DK cD42 5 (.ifCond .lt 10) 3 := by decide +kernel
theorem d58_8 : DK cD42 8 (.iload_n 1) 1 := by decide +kernel
theorem d58_9 : DK cD42 9 (.iload_n 2) 1 := by decide +kernel
theorem d58_10 : DK cD42 10 (.iload_n 0) 1 := by decide +kernel
theorem d58_11 : DK cD42 11 (.isub) 1 := by decide +kernel
theorem d58_12 : DK cD42 12 (.if_icmp .le 11) 3 := by decide +kernel
theorem d58_23 : DK cD42 23 (.iload_n 0) 1 := by decide +kernel
theorem d58_24 : DK cD42 24 (.ireturn) 1 := by decide +kernel
theorem ef_rmCbopN (m : MethodId) (y0 : Int32) (y1 : Int32) : entryFrame m #[(.int 0), (.int y0), (.int y1), .null] 4 = (mkF m 0 #[vI 0, vI y0, vI y1, .val .null] []) := by first | (simp [entryFrame, mkF, argsToLocals, Value.category]; done) | rfl
def Q_rmCbopN (Z : State) (ni nj : Nat) (h0 : Heap) (n0 : Nat) (v : Option Value) (h : Heap) (L : List Loc) : Prop := v = some (.int 0) ∧ Fr n0 L ∧ h = h0
theorem rmCbopN (l : Launch) (Z : State) (a0 : Array Value) (hw : HW a0 Z) (ws : List Jvm.Cond) (ni nj : Nat) (h0 : Heap) (n0 : Nat) (O0 : Old Z n0 h0) (hij : ni ≤ nj) (hj : nj < 2 ^ 31) :
  MF l mN42 jdk_41_method_13_code 4 (some .int) ws (Rm 0 0 0 0) Z #[(.int 0), (.int (oN ni)), (.int (oN nj)), .null] h0 (Q_rmCbopN Z ni nj h0 n0) := by
 refine MetFree.of_bodySF (plainFor_of_name pn_35) hisR ?_
 intro p e s m args below meth c s₁ Bd hml0 hP hK
 obtain ⟨rfl, hZ, hh⟩ := hP
 have hx := Bd.exec
 have hby := Bd.bytes
 have hml : c.maxLocals = 4 := hml0
 have hown : s.vm.findClass "jdk/internal/util/Preconditions" = some m.cls := findClass_of_methodNamed Bd.named
 have X0 : Stand p l e (Rm 0 0 0 0) s m #[(.int 0), (.int (oN ni)), (.int (oN nj)), .null] below meth c s₁ [] 0 0 := Stand.of_body Bd
 have e0 : s₁.heap = h0 := by rw [← hh, Bd.state]; rfl
 have N0 := Fr.nil n0
 have hn0 : n0 ≤ h0.size := O0.1 ▸ O0.2.1
 have pre0 : ∀ t, SS p e below s₁ m 0 #[vI 0, vI (oN ni), vI (oN nj), .val .null] [] t → SE p e below s₁ m #[(.int 0), (.int (oN ni)), (.int (oN nj)), .null] 4 t := fun t k => castTop (ef_rmCbopN m ((oN ni)) ((oN nj))) k
 have hr101 : ((oN nj) - (0 : Int32)) = (oN nj) := Int32.sub_zero _
 obtain ⟨fs, hr, hrun, hended, hW, hsame⟩ := X0.leave (v := some (.int 0)) (nvr Bd.returns)
 refine ⟨_, _, pre0 _ ?_, hrun, hended, _, _, rfl, ?_, ⟨_, rfl⟩, hW, hsame.mono (by decide) (by decide)⟩
 ·skip
  show SS p e below s₁ m 0 #[vI 0, vI (oN ni), vI (oN nj), .val .null] [] _
  refine XS.iloadN X0.here hx rfl (hb hby d58_0) rfl ?_
  refine XS.iloadN X0.here hx rfl (hb hby d58_1) rfl ?_
  refine XS.ior X0.here hx rfl (hb hby d58_2) rfl ?_
  refine XS.iloadN X0.here hx rfl (hb hby d58_3) rfl ?_
  refine XS.ior X0.here hx rfl (hb hby d58_4) rfl ?_
  refine XS.ifNo X0.here hx rfl (hb hby d58_5) rfl ((if0 _ _).trans (flt (own_or (own_or (own_nn hj) (by decide)) (own_nn (by omega)) : ¬ ((((oN nj) ||| (0 : Int32)) ||| (oN ni)) < (0 : Int32)))).1) ?_
  refine XS.iloadN X0.here hx rfl (hb hby d58_8) rfl ?_
  refine XS.iloadN X0.here hx rfl (hb hby d58_9) rfl ?_
  refine XS.iloadN X0.here hx rfl (hb hby d58_10) rfl ?_
  refine XS.isub X0.here hx rfl (hb hby d58_11) rfl ?_
  show SS p e below s₁ m 12 #[vI 0, vI (oN ni), vI (oN nj), .val .null] [(.int ((oN nj) - (0 : Int32))), (.int (oN ni))] _
  rw [hr101]
  refine XS.icmpYes X0.here hx rfl (pc0 := 12) (pc' := 23) rfl (hb hby d58_12) rfl (flt (fun q => by have := (own_lt hj (by omega)).mp q; omega : ¬ ((oN nj) < (oN ni)))).2.2.2 (by decide) (by decide) ?_
  refine XS.iloadN X0.here hx rfl (hb hby d58_23) rfl ?_
  show SS p e below s₁ m 24 #[vI 0, vI (oN ni), vI (oN nj), .val .null] [(.int 0)] _
  exact retI X0 hx Bd.returns (hb hby d58_24) hr
 ·show Q_rmCbopN Z ni nj h0 n0 _ s₁.heap _
  rw [e0]
  exact ⟨rfl, N0, rfl⟩
theorem ef_rmCbopF (m : MethodId) (y0 : Int32) (y1 : Int32) (y2 : Addr) : entryFrame m #[(.int 0), (.int y0), (.int y1), (.ref y2)] 4 = (mkF m 0 #[vI 0, vI y0, vI y1, vR y2] []) := by first | (simp [entryFrame, mkF, argsToLocals, Value.category]; done) | rfl
def Q_rmCbopF (Z : State) (a9 : Addr) (ni nj : Nat) (h0 : Heap) (n0 : Nat) (v : Option Value) (h : Heap) (L : List Loc) : Prop := v = some (.int 0) ∧ Fr n0 L ∧ h = h0
theorem rmCbopF (l : Launch) (Z : State) (a0 : Array Value) (hw : HW a0 Z) (ws : List Jvm.Cond) (a9 : Addr) (ni nj : Nat) (h0 : Heap) (n0 : Nat) (O0 : Old Z n0 h0) (hij : ni ≤ nj) (hj : nj < 2 ^ 31) :
  MF l mN42 jdk_41_method_13_code 4 (some .int) ws (Rm 0 0 0 0) Z #[(.int 0), (.int (oN ni)), (.int (oN nj)), (.ref a9)] h0 (Q_rmCbopF Z a9 ni nj h0 n0) := by
 refine MetFree.of_bodySF (plainFor_of_name pn_35) hisR ?_
 intro p e s m args below meth c s₁ Bd hml0 hP hK
 obtain ⟨rfl, hZ, hh⟩ := hP
 have hx := Bd.exec
 have hby := Bd.bytes
 have hml : c.maxLocals = 4 := hml0
 have hown : s.vm.findClass "jdk/internal/util/Preconditions" = some m.cls := findClass_of_methodNamed Bd.named
 have X0 : Stand p l e (Rm 0 0 0 0) s m #[(.int 0), (.int (oN ni)), (.int (oN nj)), (.ref a9)] below meth c s₁ [] 0 0 := Stand.of_body Bd
 have e0 : s₁.heap = h0 := by rw [← hh, Bd.state]; rfl
 have N0 := Fr.nil n0
 have hn0 : n0 ≤ h0.size := O0.1 ▸ O0.2.1
 have pre0 : ∀ t, SS p e below s₁ m 0 #[vI 0, vI (oN ni), vI (oN nj), vR a9] [] t → SE p e below s₁ m #[(.int 0), (.int (oN ni)), (.int (oN nj)), (.ref a9)] 4 t := fun t k => castTop (ef_rmCbopF m ((oN ni)) ((oN nj)) a9) k
 have hr101 : ((oN nj) - (0 : Int32)) = (oN nj) := Int32.sub_zero _
 obtain ⟨fs, hr, hrun, hended, hW, hsame⟩ := X0.leave (v := some (.int 0)) (nvr Bd.returns)
 refine ⟨_, _, pre0 _ ?_, hrun, hended, _, _, rfl, ?_, ⟨_, rfl⟩, hW, hsame.mono (by decide) (by decide)⟩
 ·skip
  show SS p e below s₁ m 0 #[vI 0, vI (oN ni), vI (oN nj), vR a9] [] _
  refine XS.iloadN X0.here hx rfl (hb hby d58_0) rfl ?_
  refine XS.iloadN X0.here hx rfl (hb hby d58_1) rfl ?_
  refine XS.ior X0.here hx rfl (hb hby d58_2) rfl ?_
  refine XS.iloadN X0.here hx rfl (hb hby d58_3) rfl ?_
  refine XS.ior X0.here hx rfl (hb hby d58_4) rfl ?_
  refine XS.ifNo X0.here hx rfl (hb hby d58_5) rfl ((if0 _ _).trans (flt (own_or (own_or (own_nn hj) (by decide)) (own_nn (by omega)) : ¬ ((((oN nj) ||| (0 : Int32)) ||| (oN ni)) < (0 : Int32)))).1) ?_
  refine XS.iloadN X0.here hx rfl (hb hby d58_8) rfl ?_
  refine XS.iloadN X0.here hx rfl (hb hby d58_9) rfl ?_
  refine XS.iloadN X0.here hx rfl (hb hby d58_10) rfl ?_
  refine XS.isub X0.here hx rfl (hb hby d58_11) rfl ?_
  show SS p e below s₁ m 12 #[vI 0, vI (oN ni), vI (oN nj), vR a9] [(.int ((oN nj) - (0 : Int32))), (.int (oN ni))] _
  rw [hr101]
  refine XS.icmpYes X0.here hx rfl (pc0 := 12) (pc' := 23) rfl (hb hby d58_12) rfl (flt (fun q => by have := (own_lt hj (by omega)).mp q; omega : ¬ ((oN nj) < (oN ni)))).2.2.2 (by decide) (by decide) ?_
  refine XS.iloadN X0.here hx rfl (hb hby d58_23) rfl ?_
  show SS p e below s₁ m 24 #[vI 0, vI (oN ni), vI (oN nj), vR a9] [(.int 0)] _
  exact retI X0 hx Bd.returns (hb hby d58_24) hr
 ·show Q_rmCbopF Z a9 ni nj h0 n0 _ s₁.heap _
  rw [e0]
  exact ⟨rfl, N0, rfl⟩
theorem d57_0 : DK cD43 0 (.iload_n 0) 1 := by decide +kernel
theorem d57_1 : DK cD43 1 (.iload_n 1) 1 := by decide +kernel
theorem d57_2 : DK cD43 2 (.iload_n 2) 1 := by decide +kernel
theorem d57_3 : DK cD43 3 (.getstatic 1053) 3 := by decide +kernel
theorem d57_6 : DK cD43 6 (.invokestatic 1065) 3 := by decide +kernel
theorem d57_9 : DK cD43 9 (.ireturn) 1 := by decide +kernel
theorem pd_41 : parseMethodDescriptor "(IIILjava/util/function/BiFunction;)I" = some ⟨[.int, .int, .int, (.object "java/util/function/BiFunction")], some .int⟩ := by decide +kernel
theorem ef_rmCboN (m : MethodId) (y0 : Int32) (y1 : Int32) : entryFrame m #[(.int 0), (.int y0), (.int y1)] 3 = (mkF m 0 #[vI 0, vI y0, vI y1] []) := by first | (simp [entryFrame, mkF, argsToLocals, Value.category]; done) | rfl
def Q_rmCboN (Z : State) (ni nj : Nat) (h0 : Heap) (n0 : Nat) (v : Option Value) (h : Heap) (L : List Loc) : Prop := v = some (.int 0) ∧ Fr n0 L ∧ h = h0
theorem rmCboN (l : Launch) (Z : State) (a0 : Array Value) (hw : HW a0 Z) (ws : List Jvm.Cond) (ni nj : Nat) (h0 : Heap) (n0 : Nat) (O0 : Old Z n0 h0) (S_FM : Sta Z Z.heap "jdk/internal/util/Preconditions" "SIOOBE_FORMATTER" "Ljava/util/function/BiFunction;" .null) (hij : ni ≤ nj) (hj : nj < 2 ^ 31) :
  MF l mN43 jdk_42_method_157_code 3 (some .int) ws (Rm 1 0 0 20) Z #[(.int 0), (.int (oN ni)), (.int (oN nj))] h0 (Q_rmCboN Z ni nj h0 n0) := by
 refine MetFree.of_bodySF (plainFor_of_name pn_2) hisR ?_
 intro p e s m args below meth c s₁ Bd hml0 hP hK
 obtain ⟨rfl, hZ, hh⟩ := hP
 have hx := Bd.exec
 have hby := Bd.bytes
 have hml : c.maxLocals = 3 := hml0
 have hown : s.vm.findClass "java/lang/String" = some m.cls := findClass_of_methodNamed Bd.named
 have X0 : Stand p l e (Rm 1 0 0 20) s m #[(.int 0), (.int (oN ni)), (.int (oN nj))] below meth c s₁ [] 0 0 := Stand.of_body Bd
 have e0 : s₁.heap = h0 := by rw [← hh, Bd.state]; rfl
 have N0 := Fr.nil n0
 have hn0 : n0 ≤ h0.size := O0.1 ▸ O0.2.1
 have pre0 : ∀ t, SS p e below s₁ m 0 #[vI 0, vI (oN ni), vI (oN nj)] [] t → SE p e below s₁ m #[(.int 0), (.int (oN ni)), (.int (oN nj))] 3 t := fun t k => castTop (ef_rmCboN m ((oN ni)) ((oN nj))) k
 obtain ⟨T101, X101, e101, st101⟩ := getS2 X0 hx hZ hown (host := "") (Or.inl (tw hw 177 rfl)) Via.refl e0 (Sta.ext O0.2 S_FM) (g := (mkF m 3 #[vI 0, vI (oN ni), vI (oN nj)] [(.int (oN nj)), (.int (oN ni)), (.int 0)])) rfl (hb hby d57_3)
 obtain ⟨_, _, ⟨T102, L102, k102, n102⟩, -, X102, ⟨Lc102, hQ102, l102, y102, z102⟩, st102⟩ := Jvm.LawKit.callS X101 hx (y := mN42) hown (mvT hZ (tw hw 269 rfl)) (mvT hZ (tw hw 270 rfl)) (mvT hZ (tw hw 178 rfl)) (mvT hZ (tw hw 271 rfl)) (by decide) (backOf (W := 0) (rmCbopN l Z a0 hw []  ni nj h0 n0 O0 hij hj) hZ (tw hw 271 rfl) (tw hw 178 rfl) (by decide) (by decide)) (g := (mkF m 6 #[vI 0, vI (oN ni), vI (oN nj)] [.null, (.int (oN nj)), (.int (oN ni)), (.int 0)])) rfl (by rw [hml]; rfl) (argsL := [(.int 0), (.int (oN ni)), (.int (oN nj)), .null]) (rest := []) (lenOf pd_41 rfl) rfl (wL _) (hb hby d57_6) (fun _ _ => ⟨rfl, e101, (by decide : 0 + 0 ≤ _), (by decide : 0 + 0 ≤ _)⟩)
 dsimp only [Pt.U, Pt.locs, Pt.cells, Pt.slots] at X102 l102 y102 z102 st102 hQ102
 subst l102 y102 z102
 obtain ⟨rfl, N102q, H102⟩ := hQ102
 have N102 := Fr.app N0 N102q
 obtain ⟨fs, hr, hrun, hended, hW, hsame⟩ := X102.leave (v := some (.int 0)) (nvr Bd.returns)
 refine ⟨_, _, pre0 _ ?_, hrun, hended, _, _, rfl, ?_, ⟨_, rfl⟩, hW, hsame.mono (by decide) (by decide)⟩
 ·skip
  show SS p e below s₁ m 0 #[vI 0, vI (oN ni), vI (oN nj)] [] _
  refine XS.iloadN X0.here hx rfl (hb hby d57_0) rfl ?_
  refine XS.iloadN X0.here hx rfl (hb hby d57_1) rfl ?_
  refine XS.iloadN X0.here hx rfl (hb hby d57_2) rfl ?_
  show SS p e below s₁ m 3 #[vI 0, vI (oN ni), vI (oN nj)] [(.int (oN nj)), (.int (oN ni)), (.int 0)] _
  refine st101 _ ?_
  show SS p e below T101 m 6 #[vI 0, vI (oN ni), vI (oN nj)] [.null, (.int (oN nj)), (.int (oN ni)), (.int 0)] _
  refine st102 _ ?_
  show SS p e below T102 m 9 #[vI 0, vI (oN ni), vI (oN nj)] [(.int 0)] _
  exact retI X102 hx Bd.returns (hb hby d57_9) hr
 ·show Q_rmCboN Z ni nj h0 n0 _ T102.heap _
  rw [H102]
  exact ⟨rfl, N102, rfl⟩
theorem ef_rmCboF (m : MethodId) (y0 : Int32) (y1 : Int32) : entryFrame m #[(.int 0), (.int y0), (.int y1)] 3 = (mkF m 0 #[vI 0, vI y0, vI y1] []) := by first | (simp [entryFrame, mkF, argsToLocals, Value.category]; done) | rfl
def Q_rmCboF (Z : State) (ni nj : Nat) (fm : Addr) (h0 : Heap) (n0 : Nat) (v : Option Value) (h : Heap) (L : List Loc) : Prop := v = some (.int 0) ∧ Fr n0 L ∧ h = h0
theorem rmCboF (l : Launch) (Z : State) (a0 : Array Value) (hw : HW a0 Z) (ws : List Jvm.Cond) (ni nj : Nat) (fm : Addr) (h0 : Heap) (n0 : Nat) (O0 : Old Z n0 h0) (S_FM : Sta Z Z.heap "jdk/internal/util/Preconditions" "SIOOBE_FORMATTER" "Ljava/util/function/BiFunction;" (.ref fm)) (hij : ni ≤ nj) (hj : nj < 2 ^ 31) :
  MF l mN43 jdk_42_method_157_code 3 (some .int) ws (Rm 1 0 0 20) Z #[(.int 0), (.int (oN ni)), (.int (oN nj))] h0 (Q_rmCboF Z ni nj fm h0 n0) := by
 refine MetFree.of_bodySF (plainFor_of_name pn_2) hisR ?_
 intro p e s m args below meth c s₁ Bd hml0 hP hK
 obtain ⟨rfl, hZ, hh⟩ := hP
 have hx := Bd.exec
 have hby := Bd.bytes
 have hml : c.maxLocals = 3 := hml0
 have hown : s.vm.findClass "java/lang/String" = some m.cls := findClass_of_methodNamed Bd.named
 have X0 : Stand p l e (Rm 1 0 0 20) s m #[(.int 0), (.int (oN ni)), (.int (oN nj))] below meth c s₁ [] 0 0 := Stand.of_body Bd
 have e0 : s₁.heap = h0 := by rw [← hh, Bd.state]; rfl
 have N0 := Fr.nil n0
 have hn0 : n0 ≤ h0.size := O0.1 ▸ O0.2.1
 have pre0 : ∀ t, SS p e below s₁ m 0 #[vI 0, vI (oN ni), vI (oN nj)] [] t → SE p e below s₁ m #[(.int 0), (.int (oN ni)), (.int (oN nj))] 3 t := fun t k => castTop (ef_rmCboF m ((oN ni)) ((oN nj))) k
 obtain ⟨T101, X101, e101, st101⟩ := getS2 X0 hx hZ hown (host := "") (Or.inl (tw hw 177 rfl)) Via.refl e0 (Sta.ext O0.2 S_FM) (g := (mkF m 3 #[vI 0, vI (oN ni), vI (oN nj)] [(.int (oN nj)), (.int (oN ni)), (.int 0)])) rfl (hb hby d57_3)
 obtain ⟨_, _, ⟨T102, L102, k102, n102⟩, -, X102, ⟨Lc102, hQ102, l102, y102, z102⟩, st102⟩ := Jvm.LawKit.callS X101 hx (y := mN42) hown (mvT hZ (tw hw 269 rfl)) (mvT hZ (tw hw 270 rfl)) (mvT hZ (tw hw 178 rfl)) (mvT hZ (tw hw 271 rfl)) (by decide) (backOf (W := 0) (rmCbopF l Z a0 hw [] fm ni nj h0 n0 O0 hij hj) hZ (tw hw 271 rfl) (tw hw 178 rfl) (by decide) (by decide)) (g := (mkF m 6 #[vI 0, vI (oN ni), vI (oN nj)] [(.ref fm), (.int (oN nj)), (.int (oN ni)), (.int 0)])) rfl (by rw [hml]; rfl) (argsL := [(.int 0), (.int (oN ni)), (.int (oN nj)), (.ref fm)]) (rest := []) (lenOf pd_41 rfl) rfl (wL _) (hb hby d57_6) (fun _ _ => ⟨rfl, e101, (by decide : 0 + 0 ≤ _), (by decide : 0 + 0 ≤ _)⟩)
 dsimp only [Pt.U, Pt.locs, Pt.cells, Pt.slots] at X102 l102 y102 z102 st102 hQ102
 subst l102 y102 z102
 obtain ⟨rfl, N102q, H102⟩ := hQ102
 have N102 := Fr.app N0 N102q
 obtain ⟨fs, hr, hrun, hended, hW, hsame⟩ := X102.leave (v := some (.int 0)) (nvr Bd.returns)
 refine ⟨_, _, pre0 _ ?_, hrun, hended, _, _, rfl, ?_, ⟨_, rfl⟩, hW, hsame.mono (by decide) (by decide)⟩
 ·skip
  show SS p e below s₁ m 0 #[vI 0, vI (oN ni), vI (oN nj)] [] _
  refine XS.iloadN X0.here hx rfl (hb hby d57_0) rfl ?_
  refine XS.iloadN X0.here hx rfl (hb hby d57_1) rfl ?_
  refine XS.iloadN X0.here hx rfl (hb hby d57_2) rfl ?_
  show SS p e below s₁ m 3 #[vI 0, vI (oN ni), vI (oN nj)] [(.int (oN nj)), (.int (oN ni)), (.int 0)] _
  refine st101 _ ?_
  show SS p e below T101 m 6 #[vI 0, vI (oN ni), vI (oN nj)] [(.ref fm), (.int (oN nj)), (.int (oN ni)), (.int 0)] _
  refine st102 _ ?_
  show SS p e below T102 m 9 #[vI 0, vI (oN ni), vI (oN nj)] [(.int 0)] _
  exact retI X102 hx Bd.returns (hb hby d57_9) hr
 ·show Q_rmCboF Z ni nj fm h0 n0 _ T102.heap _
  rw [H102]
  exact ⟨rfl, N102, rfl⟩
def Q_rmCbo (Z : State) (ni nj : Nat) (fm : Value) (h0 : Heap) (n0 : Nat) (v : Option Value) (h : Heap) (L : List Loc) : Prop := v = some (.int 0) ∧ Fr n0 L ∧ h = h0
theorem rmCbo (l : Launch) (Z : State) (a0 : Array Value) (hw : HW a0 Z) (ws : List Jvm.Cond) (ni nj : Nat) (fm : Value) (h0 : Heap) (n0 : Nat) (O0 : Old Z n0 h0) (S_FM : SFM Z fm) (r_FM : fm.isRef = true) (hij : ni ≤ nj) (hj : nj < 2 ^ 31) :
  MF l mN43 jdk_42_method_157_code 3 (some .int) ws (Rm 1 0 0 20) Z #[(.int 0), (.int (oN ni)), (.int (oN nj))] h0 (Q_rmCbo Z ni nj fm h0 n0) := by
 rcases ref_cases r_FM with rfl | ⟨a, rfl⟩
 ·exact rmCboN l Z a0 hw ws ni nj h0 n0 O0 S_FM hij hj
 ·exact rmCboF l Z a0 hw ws ni nj a h0 n0 O0 S_FM hij hj
theorem d56_0 : DK cD44 0 (.iload_n 0) 1 := by decide +kernel
theorem d56_1 : DK cD44 1 (.iload_n 1) 1 := by decide +kernel
theorem d56_2 : DK cD44 2 (.aload_n 2) 1 := by decide +kernel
theorem d56_3 : DK cD44 3 (.invokestatic 48) 3 := by decide +kernel
theorem d56_6 : DK cD44 6 (.invokestatic 419) 3 := by decide +kernel
theorem d56_9 : DK cD44 9 (.pop) 1 := by decide +kernel
theorem d56_10 : DK cD44 10 (.return_) 1 := by decide +kernel
theorem pd_40 : parseMethodDescriptor "(III)I" = some ⟨[.int, .int, .int], some .int⟩ := by decide +kernel
theorem ef_rmUbo (m : MethodId) (y0 : Int32) (y1 : Addr) : entryFrame m #[(.int 0), (.int y0), (.ref y1)] 3 = (mkF m 0 #[vI 0, vI y0, vR y1] []) := by first | (simp [entryFrame, mkF, argsToLocals, Value.category]; done) | rfl
def Q_rmUbo (Z : State) (a3 : Addr) (ni mm : Nat) (k1 : ClassId) (vs : List Value) (fm : Value) (h0 : Heap) (n0 : Nat) (v : Option Value) (h : Heap) (L : List Loc) : Prop := v = none ∧ Fr n0 L ∧ h = h0
theorem rmUbo (l : Launch) (Z : State) (a0 : Array Value) (hw : HW a0 Z) (ws : List Jvm.Cond) (a3 : Addr) (ni mm : Nat) (k1 : ClassId) (vs : List Value) (fm : Value) (h0 : Heap) (n0 : Nat) (O0 : Old Z n0 h0) (S_FM : SFM Z fm) (r_FM : fm.isRef = true) (V1 : Arv Z h0 a3 k1 .byte (oN (2 * mm)) vs (.int 0)) (hm : mm < 2 ^ 29) (hij : ni ≤ mm) :
  MF l mN44 jdk_52_method_94_code 3 none ws (Rm 2 0 0 40) Z #[(.int 0), (.int (oN ni)), (.ref a3)] h0 (Q_rmUbo Z a3 ni mm k1 vs fm h0 n0) := by
 refine MetFree.of_bodySF (plainFor_of_name pn_29) hisR ?_
 intro p e s m args below meth c s₁ Bd hml0 hP hK
 obtain ⟨rfl, hZ, hh⟩ := hP
 have hx := Bd.exec
 have hby := Bd.bytes
 have hml : c.maxLocals = 3 := hml0
 have hown : s.vm.findClass "java/lang/StringUTF16" = some m.cls := findClass_of_methodNamed Bd.named
 have X0 : Stand p l e (Rm 2 0 0 40) s m #[(.int 0), (.int (oN ni)), (.ref a3)] below meth c s₁ [] 0 0 := Stand.of_body Bd
 have e0 : s₁.heap = h0 := by rw [← hh, Bd.state]; rfl
 have N0 := Fr.nil n0
 have hn0 : n0 ≤ h0.size := O0.1 ▸ O0.2.1
 have pre0 : ∀ t, SS p e below s₁ m 0 #[vI 0, vI (oN ni), vR a3] [] t → SE p e below s₁ m #[(.int 0), (.int (oN ni)), (.ref a3)] 3 t := fun t k => castTop (ef_rmUbo m ((oN ni)) a3) k
 obtain ⟨_, _, ⟨T101, L101, k101, n101⟩, -, X101, ⟨Lc101, hQ101, l101, y101, z101⟩, st101⟩ := Jvm.LawKit.callS X0 hx (y := mN32) hown (mvT hZ (tw hw 249 rfl)) (mvT hZ (tw hw 250 rfl)) (mvT hZ (tw hw 156 rfl)) (mvT hZ (tw hw 251 rfl)) (by decide) (backOf (W := 2) (rmUl l Z a0 hw [] a3 mm k1 vs h0 n0 O0 V1 (by omega)) hZ (tw hw 251 rfl) (tw hw 156 rfl) (by decide) (by decide)) (g := (mkF m 3 #[vI 0, vI (oN ni), vR a3] [(.ref a3), (.int (oN ni)), (.int 0)])) rfl (by rw [hml]; rfl) (argsL := [(.ref a3)]) (rest := [(.int (oN ni)), (.int 0)]) (lenOf pd_37 rfl) rfl (wL _) (hb hby d56_3) (fun _ _ => ⟨rfl, e0, (by decide : 0 + 0 ≤ _), (by decide : 0 + 0 ≤ _)⟩)
 dsimp only [Pt.U, Pt.locs, Pt.cells, Pt.slots] at X101 l101 y101 z101 st101 hQ101
 subst l101 y101 z101
 obtain ⟨rfl, N101q, H101⟩ := hQ101
 have N101 := Fr.app N0 N101q
 obtain ⟨_, _, ⟨T102, L102, k102, n102⟩, -, X102, ⟨Lc102, hQ102, l102, y102, z102⟩, st102⟩ := Jvm.LawKit.callS X101 hx (y := mN43) hown (mvT hZ (tw hw 266 rfl)) (mvT hZ (tw hw 267 rfl)) (mvT hZ (tw hw 8 rfl)) (mvT hZ (tw hw 268 rfl)) (by decide) (backOf (W := 0) (rmCbo l Z a0 hw []  ni mm fm h0 n0 O0 S_FM r_FM (by omega) (by omega)) hZ (tw hw 268 rfl) (tw hw 8 rfl) (by decide) (by decide)) (g := (mkF m 6 #[vI 0, vI (oN ni), vR a3] [(.int (oN mm)), (.int (oN ni)), (.int 0)])) rfl (by rw [hml]; rfl) (argsL := [(.int 0), (.int (oN ni)), (.int (oN mm))]) (rest := []) (lenOf pd_40 rfl) rfl (wL _) (hb hby d56_6) (fun _ _ => ⟨rfl, H101, (by decide : 0 + 0 ≤ _), (by decide : 0 + 0 ≤ _)⟩)
 dsimp only [Pt.U, Pt.locs, Pt.cells, Pt.slots] at X102 l102 y102 z102 st102 hQ102
 subst l102 y102 z102
 obtain ⟨rfl, N102q, H102⟩ := hQ102
 have N102 := Fr.app N101 N102q
 obtain ⟨fs, hr, hrun, hended, hW, hsame⟩ := X102.leave (v := none) (fun _ => rfl)
 refine ⟨_, _, pre0 _ ?_, hrun, hended, _, _, rfl, ?_, ⟨_, rfl⟩, hW, hsame.mono (by decide) (by decide)⟩
 ·skip
  show SS p e below s₁ m 0 #[vI 0, vI (oN ni), vR a3] [] _
  refine XS.iloadN X0.here hx rfl (hb hby d56_0) rfl ?_
  refine XS.iloadN X0.here hx rfl (hb hby d56_1) rfl ?_
  refine XS.aloadN X0.here hx rfl (hb hby d56_2) rfl rfl ?_
  show SS p e below s₁ m 3 #[vI 0, vI (oN ni), vR a3] [(.ref a3), (.int (oN ni)), (.int 0)] _
  refine st101 _ ?_
  show SS p e below T101 m 6 #[vI 0, vI (oN ni), vR a3] [(.int (oN mm)), (.int (oN ni)), (.int 0)] _
  refine st102 _ ?_
  refine XS.pop X102.here hx rfl (hb hby d56_9) rfl rfl ?_
  show SS p e below T102 m 10 #[vI 0, vI (oN ni), vR a3] [] _
  exact X102.returnOut hx Bd.returns (hb hby d56_10) hr
 ·show Q_rmUbo Z a3 ni mm k1 vs fm h0 n0 _ T102.heap _
  rw [H102]
  exact ⟨rfl, N102, rfl⟩
theorem d55_10 : DK cD45 10 (.iload 5) 2 := by decide +kernel
theorem d55_12 : DK cD45 12 (.iload 4) 2 := by decide +kernel
theorem d55_14 : DK cD45 14 (.if_icmp .ge 39) 3 := by decide +kernel
theorem d55_17 : DK cD45 17 (.aload_n 0) 1 := by decide +kernel
theorem d55_18 : DK cD45 18 (.iload_n 1) 1 := by decide +kernel
theorem d55_19 : DK cD45 19 (.invokestatic 71) 3 := by decide +kernel
theorem d55_22 : DK cD45 22 (.istore 6) 2 := by decide +kernel
theorem d55_24 : DK cD45 24 (.iload 6) 2 := by decide +kernel
theorem d55_26 : DK cD45 26 (.sipush 255) 3 := by decide +kernel
theorem d55_29 : DK cD45 29 (.if_icmp .le 6) 3 := by decide +kernel
theorem d55_35 : DK cD45 35 (.aload_n 2) 1 := by decide +kernel
theorem d55_36 : DK cD45 36 (.iload_n 3) 1 := by decide +kernel
theorem d55_37 : DK cD45 37 (.iload 6) 2 := by decide +kernel
theorem d55_39 : DK cD45 39 (.i2b) 1 := by decide +kernel
theorem d55_40 : DK cD45 40 (.bastore) 1 := by decide +kernel
theorem d55_41 : DK cD45 41 (.iinc 1 1) 3 := by decide +kernel
theorem d55_44 : DK cD45 44 (.iinc 3 1) 3 := by decide +kernel
theorem d55_47 : DK cD45 47 (.iinc 5 1) 3 := by decide +kernel
theorem d55_50 : DK cD45 50 (.goto (-40)) 3 := by decide +kernel
theorem os_tnCmpB_1 {z0 : Value} {z1 : Value} {z2 : Value} {z3 : Value} {z4 : Value} {z5 : Value} {s6 : Slot} {v : Int32} (h : One s6) : storeLocals #[.val z0, .val z1, .val z2, .val z3, .val z4, .val z5, s6] 6 (.int v) = some #[.val z0, .val z1, .val z2, .val z3, .val z4, .val z5, vI v] := by
 rcases h with rfl | ⟨w, rfl, hw⟩
 ·rfl
 ·cases w <;> first | rfl | (simp [Value.category] at hw)
theorem tnCmpB {p : Program} {l : Launch} {e : Env} {s : State} {m : MethodId} {args : Array Value} {below : List Frame} {meth : Method} {c : Code} {T0 : State} {locs : List Loc} {Z : State} {a0 : Array Value} {h0 : Heap} {n0 : Nat} (a1 : Addr) (a3 : Addr) (cs : List Int32) (mm : Nat) (k1 k3 : ClassId) (j : Nat) (s6 : Slot)
  (X0 : Stand p l e (Rm 3 0 0 70) s m args below meth c T0 locs 0 0) (hx : p.tables.exec = Jvm.exec) (hZ : Z.Warmed39 s.vm) (hw : HW a0 Z) (hby : c.code = jdk_52_method_22_code) (hml : c.maxLocals = 7) (hown : s.vm.findClass "java/lang/StringUTF16" = some m.cls) (e0 : T0.heap = h0) (O0 : Old Z n0 h0) (N0 : Fr n0 locs) (S_AD : SAD Z) (S_HI : SHI Z) (S_LO : SLO Z) (V1 : Arv Z h0 a1 k1 .byte (oN (2 * mm)) (u16 cs) (.int 0)) (g3 : n0 ≤ a3) (ne13 : @Ne Nat a1 a3) (hn : cs.length ≤ 4) (hcm : cs.length < mm) (hm : mm < 2 ^ 29) (hcs : ∀ c ∈ cs, ¬ c < 0 ∧ ¬ (65535 : Int32) < c) (V3 : Arv Z h0 a3 k3 .byte (oN cs.length) (latL cs j) (.int 0)) (hj : j < cs.length) (hc : ¬ ((255 : Int32) < (cs.getD j 0))) (hs6 : One s6) :
  ∃ (T' : State) (h' : Heap) (L' : List Loc), Stand p l e (Rm 3 0 0 70) s m args below meth c T' L' 0 0 ∧ T'.heap = h' ∧ Fr n0 L' ∧ Keep h0 h' [a3] ∧ Arv Z h' a3 k3 .byte (oN cs.length) (latL cs (j + 1)) (.int 0) ∧ ∀ target, SS p e below T' m 10 #[vR a1, vI (oN (j + 1)), vR a3, vI (oN (j + 1)), vI (oN cs.length), vI (oN (j + 1)), vI (cs.getD j 0)] [] target → SS p e below T0 m 10 #[vR a1, vI (oN j), vR a3, vI (oN j), vI (oN cs.length), vI (oN j), s6] [] target := by
 have hn0 : n0 ≤ h0.size := O0.1 ▸ O0.2.1
 have pre0 : ∀ t, SS p e below T0 m 10 #[vR a1, vI (oN j), vR a3, vI (oN j), vI (oN cs.length), vI (oN j), s6] [] t → SS p e below T0 m 10 #[vR a1, vI (oN j), vR a3, vI (oN j), vI (oN cs.length), vI (oN j), s6] [] t := fun t k => k
 have hj31 : j < 2 ^ 31 := by omega
 have hn31 : cs.length < 2 ^ 31 := by omega
 have lt_a1 : @LT.lt Nat _ a1 h0.size := V1.lt
 have lt_a3 : @LT.lt Nat _ a3 h0.size := V3.lt
 obtain ⟨_, _, ⟨T101, L101, k101, n101⟩, -, X101, ⟨Lc101, hQ101, l101, y101, z101⟩, st101⟩ := Jvm.LawKit.callS X0 hx (y := mN0) hown (mvT hZ (tw hw 236 rfl)) (mvT hZ (tw hw 237 rfl)) (mvT hZ (tw hw 156 rfl)) (mvT hZ (tw hw 238 rfl)) (by decide) (backOf (W := 0) (rmGetChar l Z a0 hw [] a1 j k1 (oN (2 * mm)) (u16 cs) ((cs.getD j 0).toInt8.toInt32) (((cs.getD j 0) >>> ((8 : Int32) &&& 31)).toInt8.toInt32) h0 n0 O0 S_AD S_HI S_LO V1 (by omega) ((own_lt (by omega) (by omega)).mpr (by omega)) ((own_lt (by omega) (by omega)).mpr (by omega)) (u16_get cs hj).1 (u16_get cs hj).2) hZ (tw hw 238 rfl) (tw hw 156 rfl) (by decide) (by decide)) (g := (mkF m 19 #[vR a1, vI (oN j), vR a3, vI (oN j), vI (oN cs.length), vI (oN j), s6] [(.int (oN j)), (.ref a1)])) rfl (by rw [hml]; rfl) (argsL := [(.ref a1), (.int (oN j))]) (rest := []) (lenOf pd_31 rfl) rfl (wL _) (hb hby d55_19) (fun _ _ => ⟨rfl, e0, (by decide : 0 + 0 ≤ _), (by decide : 0 + 0 ≤ _)⟩)
 dsimp only [Pt.U, Pt.locs, Pt.cells, Pt.slots] at X101 l101 y101 z101 st101 hQ101
 subst l101 y101 z101
 obtain ⟨rfl, N101q, H101⟩ := hQ101
 have N101 := Fr.app N0 N101q
 have hr102 : (StrChars.pairCh (StrChars.lo8 (cs.getD j 0)) (StrChars.hi8 (cs.getD j 0))) = (cs.getD j 0) := StrChars.pair_says (own_rng hcs hj).1 (own_rng hcs hj).2
 obtain ⟨cl103, Ar103, q103, S103, Nn103, H103, G103⟩ := id V3
 obtain ⟨T104, h104, X104, e104, W104, st104⟩ := stB X101 hx hZ H101 Ar103 (j := (oN j)) (inb_of S103 ⟨own_nn hj31, (own_lt hj31 hn31).mpr hj⟩) (g := (mkF m 40 #[vR a1, vI (oN j), vR a3, vI (oN j), vI (oN cs.length), vI (oN j), vI (cs.getD j 0)] [(.int ((cs.getD j 0).toInt8.toInt32)), (.int (oN j)), (.ref a3)])) rfl rfl (hb hby d55_40)
 rw [show nar .byte ((cs.getD j 0).toInt8.toInt32) = ((cs.getD j 0).toInt8.toInt32) from own_i8 _] at W104
 have V104 : Arv Z h104 a3 k3 .byte (oN cs.length) ((latL cs j).set j (.int ((cs.getD j 0).toInt8.toInt32))) (.int 0) := Arv.set Ar103 q103 S103 Nn103 H103 G103 (fits_nar_byte _) W104 j (own_nat hj31) (by rw [latL_len cs (Nat.le_of_lt hj)]; exact hj)
 have K104 := Keep.of_wr W104
 have N104 := Fr.snoc X104 N101 (by omega : @LE.le Nat _ n0 a3)
 rw [latL_set cs hj] at V104
 have sz1_K104 := K104.1
 have KC105 : Keep h0 h104 [a3] := (Keep.refl h0 [a3]).trans K104 (allS (Or.inl (List.mem_of_getElem? (i := 0) rfl)) (all0))
 refine ⟨T104, h104, _, X104, e104, N104, KC105, V104, fun target kt => pre0 _ ?_⟩
 show SS p e below T0 m 10 #[vR a1, vI (oN j), vR a3, vI (oN j), vI (oN cs.length), vI (oN j), s6] [] _
 refine XS.iload X0.here hx rfl (hb hby d55_10) rfl ?_
 refine XS.iload X0.here hx rfl (hb hby d55_12) rfl ?_
 refine XS.icmpNo X0.here hx rfl (hb hby d55_14) rfl (tlt ((own_lt hj31 hn31).mpr hj : (oN j) < (oN cs.length))).2.1 ?_
 refine XS.aloadN X0.here hx rfl (hb hby d55_17) rfl rfl ?_
 refine XS.iloadN X0.here hx rfl (hb hby d55_18) rfl ?_
 show SS p e below T0 m 19 #[vR a1, vI (oN j), vR a3, vI (oN j), vI (oN cs.length), vI (oN j), s6] [(.int (oN j)), (.ref a1)] _
 refine st101 _ ?_
 show SS p e below T101 m 22 #[vR a1, vI (oN j), vR a3, vI (oN j), vI (oN cs.length), vI (oN j), s6] [(.int (StrChars.pairCh (StrChars.lo8 (cs.getD j 0)) (StrChars.hi8 (cs.getD j 0))))] _
 rw [hr102]
 refine XS.istore X101.here hx rfl (hb hby d55_22) rfl (l' := #[vR a1, vI (oN j), vR a3, vI (oN j), vI (oN cs.length), vI (oN j), vI (cs.getD j 0)]) (os_tnCmpB_1 hs6) ?_
 refine XS.iload X101.here hx rfl (hb hby d55_24) rfl ?_
 refine XS.sipush X101.here hx rfl (hb hby d55_26) ?_
 refine XS.icmpYes X101.here hx rfl (pc0 := 29) (pc' := 35) rfl (hb hby d55_29) rfl (flt (hc : ¬ ((255 : Int32) < (cs.getD j 0)))).2.2.2 (by decide) (by decide) ?_
 refine XS.aloadN X101.here hx rfl (hb hby d55_35) rfl rfl ?_
 refine XS.iloadN X101.here hx rfl (hb hby d55_36) rfl ?_
 refine XS.iload X101.here hx rfl (hb hby d55_37) rfl ?_
 refine XS.i2b X101.here hx rfl (hb hby d55_39) rfl ?_
 show SS p e below T101 m 40 #[vR a1, vI (oN j), vR a3, vI (oN j), vI (oN cs.length), vI (oN j), vI (cs.getD j 0)] [(.int ((cs.getD j 0).toInt8.toInt32)), (.int (oN j)), (.ref a3)] _
 refine st104 _ ?_
 refine XS.iinc X104.here hx rfl (hb hby d55_41) rfl (l' := #[vR a1, vI ((oN j) + (1 : Int32)), vR a3, vI (oN j), vI (oN cs.length), vI (oN j), vI (cs.getD j 0)]) rfl ?_
 refine XS.iinc X104.here hx rfl (hb hby d55_44) rfl (l' := #[vR a1, vI ((oN j) + (1 : Int32)), vR a3, vI ((oN j) + (1 : Int32)), vI (oN cs.length), vI (oN j), vI (cs.getD j 0)]) rfl ?_
 refine XS.iinc X104.here hx rfl (hb hby d55_47) rfl (l' := #[vR a1, vI ((oN j) + (1 : Int32)), vR a3, vI ((oN j) + (1 : Int32)), vI (oN cs.length), vI ((oN j) + (1 : Int32)), vI (cs.getD j 0)]) rfl ?_
 refine XS.goto X104.here hx rfl (pc0 := 50) (pc' := 10) rfl (hb hby d55_50) (by decide) (by decide) ?_
 show SS p e below T104 m 10 #[vR a1, vI ((oN j) + (1 : Int32)), vR a3, vI ((oN j) + (1 : Int32)), vI (oN cs.length), vI ((oN j) + (1 : Int32)), vI (cs.getD j 0)] [] _
 rw [own_succ j]
 exact kt
theorem lpCmpB {p : Program} {l : Launch} {e : Env} {s : State} {m : MethodId} {args : Array Value} {below : List Frame} {meth : Method} {c : Code} {T0 : State} {locs : List Loc} {Z : State} {a0 : Array Value} {h0 : Heap} {n0 : Nat} (a1 : Addr) (a3 : Addr) (cs : List Int32) (mm : Nat) (k1 k3 : ClassId) (M : Nat) (X0 : Stand p l e (Rm 3 0 0 70) s m args below meth c T0 locs 0 0) (hx : p.tables.exec = Jvm.exec) (hZ : Z.Warmed39 s.vm) (hw : HW a0 Z) (hby : c.code = jdk_52_method_22_code) (hml : c.maxLocals = 7) (hown : s.vm.findClass "java/lang/StringUTF16" = some m.cls) (e0 : T0.heap = h0) (O0 : Old Z n0 h0) (N0 : Fr n0 locs) (S_AD : SAD Z) (S_HI : SHI Z) (S_LO : SLO Z) (V1 : Arv Z h0 a1 k1 .byte (oN (2 * mm)) (u16 cs) (.int 0)) (g3 : n0 ≤ a3) (ne13 : @Ne Nat a1 a3) (hn : cs.length ≤ 4) (hcm : cs.length < mm) (hm : mm < 2 ^ 29) (hcs : ∀ c ∈ cs, ¬ c < 0 ∧ ¬ (65535 : Int32) < c) (V3 : Arv Z h0 a3 k3 .byte (oN cs.length) (latL cs 0) (.int 0)) (hM : M ≤ cs.length) (hpre : ∀ j, j < M → ¬ ((255 : Int32) < cs.getD j 0)) :
  ∀ j, j ≤ M → ∃ (T' : State) (h' : Heap) (L' : List Loc) (s6 : Slot), Stand p l e (Rm 3 0 0 70) s m args below meth c T' L' 0 0 ∧ T'.heap = h' ∧ Fr n0 L' ∧ One s6 ∧ Keep h0 h' [a3] ∧ Arv Z h' a3 k3 .byte (oN cs.length) (latL cs j) (.int 0) ∧ ∀ target, SS p e below T' m 10 #[vR a1, vI (oN j), vR a3, vI (oN j), vI (oN cs.length), vI (oN j), s6] [] target → SS p e below T0 m 10 #[vR a1, vI (oN 0), vR a3, vI (oN 0), vI (oN cs.length), vI (oN 0), .unset] [] target := by
 intro j
 induction j with
 | zero => exact fun _ => ⟨T0, h0, locs, .unset, X0, e0, N0, One.u, Keep.refl _ _, V3, fun _ k => k⟩
 | succ j ih =>
  intro hj
  obtain ⟨T, h, L, s6, X, e1, N, hs6, K, V, st⟩ := ih (by omega)
  obtain ⟨T2, h2, L2, X2, e2, N2, K2, V2, st2⟩ := tnCmpB a1 a3 cs mm k1 k3 j s6 X hx hZ hw hby hml hown e1 (O0.keep K (allS g3 all0)) N S_AD S_HI S_LO (V1.keep K (ninS ne13 nin0)) g3 ne13 hn hcm hm hcs V (by omega) (hpre j (by omega)) hs6
  exact ⟨T2, h2, L2, _, X2, e2, N2, One.val rfl, K.trans K2 (allS (Or.inl (List.mem_of_getElem? (i := 0) rfl)) all0), V2, fun t k => st _ (st2 _ k)⟩
theorem d55_0 : DK cD45 0 (.iload_n 1) 1 := by decide +kernel
theorem d55_1 : DK cD45 1 (.iload 4) 2 := by decide +kernel
theorem d55_3 : DK cD45 3 (.aload_n 0) 1 := by decide +kernel
theorem d55_4 : DK cD45 4 (.invokestatic 173) 3 := by decide +kernel
theorem d55_7 : DK cD45 7 (.iconst 0) 1 := by decide +kernel
theorem d55_8 : DK cD45 8 (.istore 5) 2 := by decide +kernel
theorem d55_32 : DK cD45 32 (.iload 5) 2 := by decide +kernel
theorem d55_34 : DK cD45 34 (.ireturn) 1 := by decide +kernel
theorem os_rmCmpB_1 {z0 : Value} {z1 : Value} {z2 : Value} {z3 : Value} {z4 : Value} {z5 : Value} {s6 : Slot} {v : Int32} (h : One s6) : storeLocals #[.val z0, .val z1, .val z2, .val z3, .val z4, .val z5, s6] 6 (.int v) = some #[.val z0, .val z1, .val z2, .val z3, .val z4, .val z5, vI v] := by
 rcases h with rfl | ⟨w, rfl, hw⟩
 ·rfl
 ·cases w <;> first | rfl | (simp [Value.category] at hw)
theorem pd_39 : parseMethodDescriptor "(II[B)V" = some ⟨[.int, .int, (.array .byte)], none⟩ := by decide +kernel
theorem ef_rmCmpB (m : MethodId) (y0 : Addr) (y1 : Addr) (y2 : Int32) : entryFrame m #[(.ref y0), (.int 0), (.ref y1), (.int 0), (.int y2)] 7 = (mkF m 0 #[vR y0, vI 0, vR y1, vI 0, vI y2, .unset, .unset] []) := by first | (simp [entryFrame, mkF, argsToLocals, Value.category]; done) | rfl
def Q_rmCmpB (Z : State) (a1 : Addr) (a3 : Addr) (cs : List Int32) (mm : Nat) (k1 k3 : ClassId) (m1 : Nat) (fm : Value) (h0 : Heap) (n0 : Nat) (v : Option Value) (h : Heap) (L : List Loc) : Prop := v = some (.int (oN m1)) ∧ Fr n0 L ∧ Keep h0 h [a3]
theorem rmCmpB (l : Launch) (Z : State) (a0 : Array Value) (hw : HW a0 Z) (ws : List Jvm.Cond) (a1 : Addr) (a3 : Addr) (cs : List Int32) (mm : Nat) (k1 k3 : ClassId) (m1 : Nat) (fm : Value) (h0 : Heap) (n0 : Nat) (O0 : Old Z n0 h0) (S_AD : SAD Z) (S_HI : SHI Z) (S_LO : SLO Z) (V1 : Arv Z h0 a1 k1 .byte (oN (2 * mm)) (u16 cs) (.int 0)) (g3 : n0 ≤ a3) (ne13 : @Ne Nat a1 a3) (hn : cs.length ≤ 4) (hcm : cs.length < mm) (hm : mm < 2 ^ 29) (hcs : ∀ c ∈ cs, ¬ c < 0 ∧ ¬ (65535 : Int32) < c) (V3 : Arv Z h0 a3 k3 .byte (oN cs.length) (latL cs 0) (.int 0)) (hj : m1 < cs.length) (hpre : ∀ j, j < m1 → ¬ ((255 : Int32) < cs.getD j 0)) (hend : (255 : Int32) < (cs.getD m1 0)) (S_FM : SFM Z fm) (r_FM : fm.isRef = true) :
  MF l mN45 jdk_52_method_22_code 7 (some .int) ws (Rm 3 0 0 70) Z #[(.ref a1), (.int 0), (.ref a3), (.int 0), (.int (oN cs.length))] h0 (Q_rmCmpB Z a1 a3 cs mm k1 k3 m1 fm h0 n0) := by
 refine MetFree.of_bodySF (plainFor_of_name pn_29) hisR ?_
 intro p e s m args below meth c s₁ Bd hml0 hP hK
 obtain ⟨rfl, hZ, hh⟩ := hP
 have hx := Bd.exec
 have hby := Bd.bytes
 have hml : c.maxLocals = 7 := hml0
 have hown : s.vm.findClass "java/lang/StringUTF16" = some m.cls := findClass_of_methodNamed Bd.named
 have X0 : Stand p l e (Rm 3 0 0 70) s m #[(.ref a1), (.int 0), (.ref a3), (.int 0), (.int (oN cs.length))] below meth c s₁ [] 0 0 := Stand.of_body Bd
 have e0 : s₁.heap = h0 := by rw [← hh, Bd.state]; rfl
 have N0 := Fr.nil n0
 have hn0 : n0 ≤ h0.size := O0.1 ▸ O0.2.1
 have pre0 : ∀ t, SS p e below s₁ m 0 #[vR a1, vI 0, vR a3, vI 0, vI (oN cs.length), .unset, .unset] [] t → SE p e below s₁ m #[(.ref a1), (.int 0), (.ref a3), (.int 0), (.int (oN cs.length))] 7 t := fun t k => castTop (ef_rmCmpB m a1 a3 ((oN cs.length))) k
 have hj31 : m1 < 2 ^ 31 := by omega
 have hn31 : cs.length < 2 ^ 31 := by omega
 have lt_a1 : @LT.lt Nat _ a1 h0.size := V1.lt
 have lt_a3 : @LT.lt Nat _ a3 h0.size := V3.lt
 obtain ⟨_, _, ⟨T101, L101, k101, n101⟩, -, X101, ⟨Lc101, hQ101, l101, y101, z101⟩, st101⟩ := Jvm.LawKit.callS X0 hx (y := mN44) hown (mvT hZ (tw hw 263 rfl)) (mvT hZ (tw hw 264 rfl)) (mvT hZ (tw hw 156 rfl)) (mvT hZ (tw hw 265 rfl)) (by decide) (backOf (W := 0) (rmUbo l Z a0 hw [] a1 (cs.length) mm k1 (u16 cs) fm h0 n0 O0 S_FM r_FM V1 (by omega) (by omega)) hZ (tw hw 265 rfl) (tw hw 156 rfl) (by decide) (by decide)) (g := (mkF m 4 #[vR a1, vI 0, vR a3, vI 0, vI (oN cs.length), .unset, .unset] [(.ref a1), (.int (oN cs.length)), (.int 0)])) rfl (by rw [hml]; rfl) (argsL := [(.int 0), (.int (oN cs.length)), (.ref a1)]) (rest := []) (lenOf pd_39 rfl) rfl (wL _) (hb hby d55_4) (fun _ _ => ⟨rfl, e0, (by decide : 0 + 0 ≤ _), (by decide : 0 + 0 ≤ _)⟩)
 dsimp only [Pt.U, Pt.locs, Pt.cells, Pt.slots] at X101 l101 y101 z101 st101 hQ101
 subst l101 y101 z101
 obtain ⟨rfl, N101q, H101⟩ := hQ101
 have N101 := Fr.app N0 N101q
 have pre102 : ∀ t, SS p e below T101 m 10 #[vR a1, vI 0, vR a3, vI 0, vI (oN cs.length), vI 0, .unset] [] t → SE p e below s₁ m #[(.ref a1), (.int 0), (.ref a3), (.int 0), (.int (oN cs.length))] 7 t := by
  intro t kt
  refine pre0 _ ?_
  show SS p e below s₁ m 0 #[vR a1, vI 0, vR a3, vI 0, vI (oN cs.length), .unset, .unset] [] _
  refine XS.iloadN X0.here hx rfl (hb hby d55_0) rfl ?_
  refine XS.iload X0.here hx rfl (hb hby d55_1) rfl ?_
  refine XS.aloadN X0.here hx rfl (hb hby d55_3) rfl rfl ?_
  show SS p e below s₁ m 4 #[vR a1, vI 0, vR a3, vI 0, vI (oN cs.length), .unset, .unset] [(.ref a1), (.int (oN cs.length)), (.int 0)] _
  refine st101 _ ?_
  refine XS.iconst X101.here hx rfl (hb hby d55_7) ?_
  refine XS.istore X101.here hx rfl (hb hby d55_8) rfl (l' := #[vR a1, vI 0, vR a3, vI 0, vI (oN cs.length), vI 0, .unset]) rfl ?_
  exact kt
 obtain ⟨T103, h103, L103, s6, X103, e103, N103, hs6, K103, V103, st103⟩ := lpCmpB a1 a3 cs mm k1 k3 m1 X101 hx hZ hw hby hml hown H101 O0 N101 S_AD S_HI S_LO V1 g3 ne13 hn hcm hm hcs V3 (Nat.le_of_lt hj) hpre m1 (Nat.le_refl _)
 have sz1_K103 := K103.1
 have C105 := V1.keep K103 (ninS (by omega : @Ne Nat a1 a3) (nin0))
 have O106 : Old Z n0 h103 := O0.keep K103 (allS (by omega) (all0))
 obtain ⟨_, _, ⟨T104, L104, k104, n104⟩, -, X104, ⟨Lc104, hQ104, l104, y104, z104⟩, st104⟩ := Jvm.LawKit.callS X103 hx (y := mN0) hown (mvT hZ (tw hw 236 rfl)) (mvT hZ (tw hw 237 rfl)) (mvT hZ (tw hw 156 rfl)) (mvT hZ (tw hw 238 rfl)) (by decide) (backOf (W := 0) (rmGetChar l Z a0 hw [] a1 m1 k1 (oN (2 * mm)) (u16 cs) ((cs.getD m1 0).toInt8.toInt32) (((cs.getD m1 0) >>> ((8 : Int32) &&& 31)).toInt8.toInt32) h103 n0 O106 S_AD S_HI S_LO C105 (by omega) ((own_lt (by omega) (by omega)).mpr (by omega)) ((own_lt (by omega) (by omega)).mpr (by omega)) (u16_get cs hj).1 (u16_get cs hj).2) hZ (tw hw 238 rfl) (tw hw 156 rfl) (by decide) (by decide)) (g := (mkF m 19 #[vR a1, vI (oN m1), vR a3, vI (oN m1), vI (oN cs.length), vI (oN m1), s6] [(.int (oN m1)), (.ref a1)])) rfl (by rw [hml]; rfl) (argsL := [(.ref a1), (.int (oN m1))]) (rest := []) (lenOf pd_31 rfl) rfl (wL _) (hb hby d55_19) (fun _ _ => ⟨rfl, e103, (by decide : 0 + 0 ≤ _), (by decide : 0 + 0 ≤ _)⟩)
 dsimp only [Pt.U, Pt.locs, Pt.cells, Pt.slots] at X104 l104 y104 z104 st104 hQ104
 subst l104 y104 z104
 obtain ⟨rfl, N104q, H104⟩ := hQ104
 have N104 := Fr.app N103 N104q
 have hr107 : (StrChars.pairCh (StrChars.lo8 (cs.getD m1 0)) (StrChars.hi8 (cs.getD m1 0))) = (cs.getD m1 0) := StrChars.pair_says (own_rng hcs hj).1 (own_rng hcs hj).2
 have KC108 : Keep h0 h103 [a3] := (Keep.refl h0 [a3]).trans K103 (allS (Or.inl (List.mem_of_getElem? (i := 0) rfl)) (all0))
 obtain ⟨fs, hr, hrun, hended, hW, hsame⟩ := X104.leave (v := some (.int (oN m1))) (nvr Bd.returns)
 refine ⟨_, _, pre102 _ ?_, hrun, hended, _, _, rfl, ?_, ⟨_, rfl⟩, hW, hsame.mono (by decide) (by decide)⟩
 ·skip
  refine st103 _ ?_
  show SS p e below T103 m 10 #[vR a1, vI (oN m1), vR a3, vI (oN m1), vI (oN cs.length), vI (oN m1), s6] [] _
  refine XS.iload X103.here hx rfl (hb hby d55_10) rfl ?_
  refine XS.iload X103.here hx rfl (hb hby d55_12) rfl ?_
  refine XS.icmpNo X103.here hx rfl (hb hby d55_14) rfl (tlt ((own_lt hj31 hn31).mpr hj : (oN m1) < (oN cs.length))).2.1 ?_
  refine XS.aloadN X103.here hx rfl (hb hby d55_17) rfl rfl ?_
  refine XS.iloadN X103.here hx rfl (hb hby d55_18) rfl ?_
  show SS p e below T103 m 19 #[vR a1, vI (oN m1), vR a3, vI (oN m1), vI (oN cs.length), vI (oN m1), s6] [(.int (oN m1)), (.ref a1)] _
  refine st104 _ ?_
  show SS p e below T104 m 22 #[vR a1, vI (oN m1), vR a3, vI (oN m1), vI (oN cs.length), vI (oN m1), s6] [(.int (StrChars.pairCh (StrChars.lo8 (cs.getD m1 0)) (StrChars.hi8 (cs.getD m1 0))))] _
  rw [hr107]
  refine XS.istore X104.here hx rfl (hb hby d55_22) rfl (l' := #[vR a1, vI (oN m1), vR a3, vI (oN m1), vI (oN cs.length), vI (oN m1), vI (cs.getD m1 0)]) (os_rmCmpB_1 hs6) ?_
  refine XS.iload X104.here hx rfl (hb hby d55_24) rfl ?_
  refine XS.sipush X104.here hx rfl (hb hby d55_26) ?_
  refine XS.icmpNo X104.here hx rfl (hb hby d55_29) rfl (tlt (hend : (255 : Int32) < (cs.getD m1 0))).2.2.2 ?_
  refine XS.iload X104.here hx rfl (hb hby d55_32) rfl ?_
  show SS p e below T104 m 34 #[vR a1, vI (oN m1), vR a3, vI (oN m1), vI (oN cs.length), vI (oN m1), vI (cs.getD m1 0)] [(.int (oN m1))] _
  exact retI X104 hx Bd.returns (hb hby d55_34) hr
 ·show Q_rmCmpB Z a1 a3 cs mm k1 k3 m1 fm h0 n0 _ T104.heap _
  rw [H104]
  exact ⟨rfl, N104, KC108⟩
theorem d54_0 : DK cD46 0 (.iload_n 2) 1 := by decide +kernel
theorem d54_1 : DK cD46 1 (.newarray .byte) 2 := by decide +kernel
theorem d54_3 : DK cD46 3 (.astore_n 3) 1 := by decide +kernel
theorem d54_4 : DK cD46 4 (.aload_n 0) 1 := by decide +kernel
theorem d54_5 : DK cD46 5 (.iload_n 1) 1 := by decide +kernel
theorem d54_6 : DK cD46 6 (.aload_n 3) 1 := by decide +kernel
theorem d54_7 : DK cD46 7 (.iconst 0) 1 := by decide +kernel
theorem d54_8 : DK cD46 8 (.iload_n 2) 1 := by decide +kernel
theorem d54_9 : DK cD46 9 (.invokestatic 123) 3 := by decide +kernel
theorem d54_12 : DK cD46 12 (.istore 4) 2 := by decide +kernel
theorem d54_14 : DK cD46 14 (.iload 4) 2 := by decide +kernel
theorem d54_16 : DK cD46 16 (.iload_n 2) 1 := by decide +kernel
theorem d54_17 : DK cD46 17 (.if_icmp .eq 47) 3 := by decide +kernel
theorem d54_20 : DK cD46 20 (.aload_n 0) 1 := by decide +kernel
theorem d54_21 : DK cD46 21 (.iload_n 1) 1 := by decide +kernel
theorem d54_22 : DK cD46 22 (.iconst 1) 1 := by decide +kernel
theorem d54_23 : DK cD46 23 (.ishl) 1 := by decide +kernel
theorem d54_24 : DK cD46 24 (.iload_n 1) 1 := by decide +kernel
theorem d54_25 : DK cD46 25 (.iload_n 2) 1 := by decide +kernel
theorem d54_26 : DK cD46 26 (.iadd) 1 := by decide +kernel
theorem d54_27 : DK cD46 27 (.invokestatic 11) 3 := by decide +kernel
theorem d54_30 : DK cD46 30 (.invokestatic 126) 3 := by decide +kernel
theorem d54_33 : DK cD46 33 (.astore 5) 2 := by decide +kernel
theorem d54_35 : DK cD46 35 (.aload 5) 2 := by decide +kernel
theorem d54_37 : DK cD46 37 (.iload 4) 2 := by decide +kernel
theorem d54_39 : DK cD46 39 (.invokestatic 71) 3 := by decide +kernel
theorem d54_42 : DK cD46 42 (.sipush 255) 3 := by decide +kernel
theorem d54_45 : DK cD46 45 (.if_icmp .gt 16) 3 := by decide +kernel
theorem d54_61 : DK cD46 61 (.aload 5) 2 := by decide +kernel
theorem d54_63 : DK cD46 63 (.areturn) 1 := by decide +kernel
theorem pd_38 : parseMethodDescriptor "([BI[BII)I" = some ⟨[(.array .byte), .int, (.array .byte), .int, .int], some .int⟩ := by decide +kernel
theorem ef_rmCmp3B (m : MethodId) (y0 : Addr) (y1 : Int32) : entryFrame m #[(.ref y0), (.int 0), (.int y1)] 6 = (mkF m 0 #[vR y0, vI 0, vI y1, .unset, .unset, .unset] []) := by first | (simp [entryFrame, mkF, argsToLocals, Value.category]; done) | rfl
def Q_rmCmp3B (Z : State) (a1 : Addr) (cs : List Int32) (mm : Nat) (k1 : ClassId) (m1 : Nat) (fm : Value) (h0 : Heap) (n0 : Nat) (v : Option Value) (h : Heap) (L : List Loc) : Prop := ∃ (t : Addr) (kb : ClassId), v = some (.ref t) ∧ Fr n0 L ∧ Keep h0 h [] ∧ h0.size ≤ t ∧ Arv Z h t kb .byte (oN (2 * cs.length)) (u16 cs) (.int 0)
theorem rmCmp3B (l : Launch) (Z : State) (a0 : Array Value) (hw : HW a0 Z) (ws : List Jvm.Cond) (a1 : Addr) (cs : List Int32) (mm : Nat) (k1 : ClassId) (m1 : Nat) (fm : Value) (h0 : Heap) (n0 : Nat) (O0 : Old Z n0 h0) (S_AD : SAD Z) (S_HI : SHI Z) (S_LO : SLO Z) (V1 : Arv Z h0 a1 k1 .byte (oN (2 * mm)) (u16 cs) (.int 0)) (hn : cs.length ≤ 4) (hcm : cs.length < mm) (hm : mm < 2 ^ 29) (hcs : ∀ c ∈ cs, ¬ c < 0 ∧ ¬ (65535 : Int32) < c) (hj : m1 < cs.length) (hpre : ∀ j, j < m1 → ¬ ((255 : Int32) < cs.getD j 0)) (hend : (255 : Int32) < (cs.getD m1 0)) (S_FM : SFM Z fm) (r_FM : fm.isRef = true) :
  MF l mN46 jdk_52_method_17_code 6 (some (.array .byte)) ws (Rm 4 2 44 110) Z #[(.ref a1), (.int 0), (.int (oN cs.length))] h0 (Q_rmCmp3B Z a1 cs mm k1 m1 fm h0 n0) := by
 refine MetFree.of_bodySF (plainFor_of_name pn_29) hisR ?_
 intro p e s m args below meth c s₁ Bd hml0 hP hK
 obtain ⟨rfl, hZ, hh⟩ := hP
 have hx := Bd.exec
 have hby := Bd.bytes
 have hml : c.maxLocals = 6 := hml0
 have hown : s.vm.findClass "java/lang/StringUTF16" = some m.cls := findClass_of_methodNamed Bd.named
 have X0 : Stand p l e (Rm 4 2 44 110) s m #[(.ref a1), (.int 0), (.int (oN cs.length))] below meth c s₁ [] 0 0 := Stand.of_body Bd
 have e0 : s₁.heap = h0 := by rw [← hh, Bd.state]; rfl
 have N0 := Fr.nil n0
 have hn0 : n0 ≤ h0.size := O0.1 ▸ O0.2.1
 have pre0 : ∀ t, SS p e below s₁ m 0 #[vR a1, vI 0, vI (oN cs.length), .unset, .unset, .unset] [] t → SE p e below s₁ m #[(.ref a1), (.int 0), (.int (oN cs.length))] 6 t := fun t k => castTop (ef_rmCmp3B m a1 ((oN cs.length))) k
 have hn31 : cs.length < 2 ^ 31 := by omega
 have lt_a1 : @LT.lt Nat _ a1 h0.size := V1.lt
 obtain ⟨T101, h101, k101, X101, e101, E101, A101, st101⟩ := newP X0 hx hZ (tw hw 20 rfl) e0 (g := (mkF m 1 #[vR a1, vI 0, vI (oN cs.length), .unset, .unset, .unset] [(.int (oN cs.length))])) rfl (hb hby d54_1) rfl (own_nn hn31) (cap := 4) (by rw [own_nat hn31]; omega) (by decide) (by decide) (by decide)
 obtain ⟨b101, g101⟩ : ∃ z, z = h0.size := ⟨_, rfl⟩
 rw [← g101] at A101 st101
 have V101 : Arv Z h101 b101 k101 .byte (oN cs.length) (List.replicate cs.length (.int 0)) (.int 0) := (Arv.new A101 (own_nn hn31)).pad (pad_rep [] (.int 0) cs.length)
 have lt101 : @LT.lt Nat _ b101 h101.size := V101.lt
 have K101 : Keep h0 h101 [] := (Keep.refl _ _).ext E101
 have sz1_K101 := K101.1
 have C103 := V1.keep K101 nin0
 have O104 : Old Z n0 h101 := O0.keep K101 all0
 obtain ⟨_, _, ⟨T102, L102, k102, n102⟩, -, X102, ⟨Lc102, hQ102, l102, y102, z102⟩, st102⟩ := Jvm.LawKit.callS X101 hx (y := mN45) hown (mvT hZ (tw hw 260 rfl)) (mvT hZ (tw hw 261 rfl)) (mvT hZ (tw hw 156 rfl)) (mvT hZ (tw hw 262 rfl)) (by decide) (backOf (W := 0) (rmCmpB l Z a0 hw [] a1 b101 cs mm k1 k101 m1 fm h101 n0 O104 S_AD S_HI S_LO C103 (by omega : @LE.le Nat _ n0 b101) (by omega) hn hcm hm hcs (latL_zero cs ▸ V101) hj hpre hend S_FM r_FM) hZ (tw hw 262 rfl) (tw hw 156 rfl) (by decide) (by decide)) (g := (mkF m 9 #[vR a1, vI 0, vI (oN cs.length), vR b101, .unset, .unset] [(.int (oN cs.length)), (.int 0), (.ref b101), (.int 0), (.ref a1)])) rfl (by rw [hml]; rfl) (argsL := [(.ref a1), (.int 0), (.ref b101), (.int 0), (.int (oN cs.length))]) (rest := []) (lenOf pd_38 rfl) rfl (wL _) (hb hby d54_9) (fun _ _ => ⟨rfl, e101, (by decide : 1 + 0 ≤ _), (by decide : 4 + 0 ≤ _)⟩)
 dsimp only [Pt.U, Pt.locs, Pt.cells, Pt.slots] at X102 l102 y102 z102 st102 hQ102
 subst l102 y102 z102
 obtain ⟨rfl, N102q, K102⟩ := hQ102
 have sz2_K102 := K102.1
 have N102 := Fr.app N0 N102q
 have hr105 : ((0 : Int32) <<< ((1 : Int32) &&& 31)) = (0 : Int32) := by decide
 have hr106 : ((0 : Int32) + (oN cs.length)) = (oN cs.length) := Int32.zero_add _
 have O108 : Old Z n0 T102.heap := O104.keep K102 (allS (by omega) (all0))
 obtain ⟨_, _, ⟨T107, L107, k107, n107⟩, -, X107, ⟨Lc107, hQ107, l107, y107, z107⟩, st107⟩ := Jvm.LawKit.callS X102 hx (y := mN2) hown (mvT hZ (tw hw 226 rfl)) (mvT hZ (tw hw 227 rfl)) (mvT hZ (tw hw 156 rfl)) (mvT hZ (tw hw 228 rfl)) (by decide) (backOf (W := 2) (rm47 l Z a0 hw []  cs.length T102.heap n0 O108 (by omega)) hZ (tw hw 228 rfl) (tw hw 156 rfl) (by decide) (by decide)) (g := (mkF m 27 #[vR a1, vI 0, vI (oN cs.length), vR b101, vI (oN m1), .unset] [(.int (oN cs.length)), (.int 0), (.ref a1)])) rfl (by rw [hml]; rfl) (argsL := [(.int (oN cs.length))]) (rest := [(.int 0), (.ref a1)]) (lenOf pd_34 rfl) rfl (wL _) (hb hby d54_27) (fun _ _ => ⟨rfl, rfl, (by decide : 1 + 0 ≤ _), (by decide : 4 + 0 ≤ _)⟩)
 dsimp only [Pt.U, Pt.locs, Pt.cells, Pt.slots] at X107 l107 y107 z107 st107 hQ107
 subst l107 y107 z107
 obtain ⟨rfl, N107q, H107⟩ := hQ107
 have N107 := Fr.app N102 N107q
 have C110 := C103.keep K102 (ninS (by omega : @Ne Nat a1 b101) (nin0))
 obtain ⟨_, _, ⟨T109, L109, k109, n109⟩, -, X109, ⟨Lc109, hQ109, l109, y109, z109⟩, st109⟩ := Jvm.LawKit.callS X107 hx (y := mN16) hown (mvT hZ (tw hw 272 rfl)) (mvT hZ (tw hw 136 rfl)) (mvT hZ (tw hw 137 rfl)) (mvT hZ (tw hw 138 rfl)) (by decide) (backOf (W := 0) (rmCr l Z a0 hw [] a1 (2 * cs.length) (2 * mm) k1 (u16 cs) T102.heap n0 O108 C110 (u16_len cs) (by omega) (by omega) (by omega)) hZ (tw hw 138 rfl) (tw hw 137 rfl) (by decide) (by decide)) (g := (mkF m 30 #[vR a1, vI 0, vI (oN cs.length), vR b101, vI (oN m1), .unset] [(.int (oN (2 * cs.length))), (.int 0), (.ref a1)])) rfl (by rw [hml]; rfl) (argsL := [(.ref a1), (.int 0), (.int (oN (2 * cs.length)))]) (rest := []) (lenOf pd_19 rfl) rfl (wL _) (hb hby d54_30) (fun _ _ => ⟨rfl, H107, (by decide : 1 + 1 ≤ _), (by decide : 4 + 40 ≤ _)⟩)
 dsimp only [Pt.U, Pt.locs, Pt.cells, Pt.slots] at X109 l109 y109 z109 st109 hQ109
 subst l109 y109 z109
 obtain ⟨t109, kb109, rfl, N109q, K109, gt109, V109⟩ := hQ109
 have lt109 : @LT.lt Nat _ t109 T109.heap.size := V109.lt
 have sz3_K109 := K109.1
 have N109 := Fr.app N107 N109q
 have O112 : Old Z n0 T109.heap := O108.keep K109 all0
 obtain ⟨_, _, ⟨T111, L111, k111, n111⟩, -, X111, ⟨Lc111, hQ111, l111, y111, z111⟩, st111⟩ := Jvm.LawKit.callS X109 hx (y := mN0) hown (mvT hZ (tw hw 236 rfl)) (mvT hZ (tw hw 237 rfl)) (mvT hZ (tw hw 156 rfl)) (mvT hZ (tw hw 238 rfl)) (by decide) (backOf (W := 0) (rmGetChar l Z a0 hw [] t109 m1 kb109 (oN (2 * cs.length)) (u16 cs) ((cs.getD m1 0).toInt8.toInt32) (((cs.getD m1 0) >>> ((8 : Int32) &&& 31)).toInt8.toInt32) T109.heap n0 O112 S_AD S_HI S_LO V109 (by omega) ((own_lt (by omega) (by omega)).mpr (by omega)) ((own_lt (by omega) (by omega)).mpr (by omega)) (u16_get cs hj).1 (u16_get cs hj).2) hZ (tw hw 238 rfl) (tw hw 156 rfl) (by decide) (by decide)) (g := (mkF m 39 #[vR a1, vI 0, vI (oN cs.length), vR b101, vI (oN m1), vR t109] [(.int (oN m1)), (.ref t109)])) rfl (by rw [hml]; rfl) (argsL := [(.ref t109), (.int (oN m1))]) (rest := []) (lenOf pd_31 rfl) rfl (wL _) (hb hby d54_39) (fun _ _ => ⟨rfl, rfl, (by decide : 2 + 0 ≤ _), (by decide : 44 + 0 ≤ _)⟩)
 dsimp only [Pt.U, Pt.locs, Pt.cells, Pt.slots] at X111 l111 y111 z111 st111 hQ111
 subst l111 y111 z111
 obtain ⟨rfl, N111q, H111⟩ := hQ111
 have N111 := Fr.app N109 N111q
 have hr113 : (StrChars.pairCh (StrChars.lo8 (cs.getD m1 0)) (StrChars.hi8 (cs.getD m1 0))) = (cs.getD m1 0) := StrChars.pair_says (own_rng hcs hj).1 (own_rng hcs hj).2
 have KC114 : Keep h0 h101 [] := (Keep.refl h0 []).trans K101 (all0)
 have KC115 : Keep h0 T102.heap [] := KC114.trans K102 (allS (Or.inr (by omega)) (all0))
 have KC116 : Keep h0 T109.heap [] := KC115.trans K109 (all0)
 obtain ⟨fs, hr, hrun, hended, hW, hsame⟩ := X111.leave (v := some (.ref t109)) (nvr Bd.returns)
 refine ⟨_, _, pre0 _ ?_, hrun, hended, _, _, rfl, ?_, ⟨_, rfl⟩, hW, hsame.mono (by decide) (by decide)⟩
 ·skip
  show SS p e below s₁ m 0 #[vR a1, vI 0, vI (oN cs.length), .unset, .unset, .unset] [] _
  refine XS.iloadN X0.here hx rfl (hb hby d54_0) rfl ?_
  show SS p e below s₁ m 1 #[vR a1, vI 0, vI (oN cs.length), .unset, .unset, .unset] [(.int (oN cs.length))] _
  refine st101 _ ?_
  refine XS.astoreN X101.here hx rfl (hb hby d54_3) rfl rfl (l' := #[vR a1, vI 0, vI (oN cs.length), vR b101, .unset, .unset]) rfl ?_
  refine XS.aloadN X101.here hx rfl (hb hby d54_4) rfl rfl ?_
  refine XS.iloadN X101.here hx rfl (hb hby d54_5) rfl ?_
  refine XS.aloadN X101.here hx rfl (hb hby d54_6) rfl rfl ?_
  refine XS.iconst X101.here hx rfl (hb hby d54_7) ?_
  refine XS.iloadN X101.here hx rfl (hb hby d54_8) rfl ?_
  show SS p e below T101 m 9 #[vR a1, vI 0, vI (oN cs.length), vR b101, .unset, .unset] [(.int (oN cs.length)), (.int 0), (.ref b101), (.int 0), (.ref a1)] _
  refine st102 _ ?_
  refine XS.istore X102.here hx rfl (hb hby d54_12) rfl (l' := #[vR a1, vI 0, vI (oN cs.length), vR b101, vI (oN m1), .unset]) rfl ?_
  refine XS.iload X102.here hx rfl (hb hby d54_14) rfl ?_
  refine XS.iloadN X102.here hx rfl (hb hby d54_16) rfl ?_
  refine XS.icmpNo X102.here hx rfl (hb hby d54_17) rfl (feq (fun q => Nat.ne_of_lt hj ((own_eqn (by omega) hn31).mp q) : ¬ ((oN m1) = (oN cs.length)))).1 ?_
  refine XS.aloadN X102.here hx rfl (hb hby d54_20) rfl rfl ?_
  refine XS.iloadN X102.here hx rfl (hb hby d54_21) rfl ?_
  refine XS.iconst X102.here hx rfl (hb hby d54_22) ?_
  show SS p e below T102 m 23 #[vR a1, vI 0, vI (oN cs.length), vR b101, vI (oN m1), .unset] [(.int 1), (.int 0), (.ref a1)] _
  refine XS.ishl X102.here hx rfl (hb hby d54_23) rfl ?_
  refine XS.iloadN X102.here hx rfl (hb hby d54_24) rfl ?_
  refine XS.iloadN X102.here hx rfl (hb hby d54_25) rfl ?_
  show SS p e below T102 m 26 #[vR a1, vI 0, vI (oN cs.length), vR b101, vI (oN m1), .unset] [(.int (oN cs.length)), (.int 0), (.int ((0 : Int32) <<< ((1 : Int32) &&& 31))), (.ref a1)] _
  rw [hr105]
  refine XS.iadd X102.here hx rfl (hb hby d54_26) rfl ?_
  show SS p e below T102 m 27 #[vR a1, vI 0, vI (oN cs.length), vR b101, vI (oN m1), .unset] [(.int ((0 : Int32) + (oN cs.length))), (.int 0), (.ref a1)] _
  rw [hr106]
  show SS p e below T102 m 27 #[vR a1, vI 0, vI (oN cs.length), vR b101, vI (oN m1), .unset] [(.int (oN cs.length)), (.int 0), (.ref a1)] _
  refine st107 _ ?_
  show SS p e below T107 m 30 #[vR a1, vI 0, vI (oN cs.length), vR b101, vI (oN m1), .unset] [(.int (oN (2 * cs.length))), (.int 0), (.ref a1)] _
  refine st109 _ ?_
  refine XS.astore X109.here hx rfl (hb hby d54_33) rfl rfl (l' := #[vR a1, vI 0, vI (oN cs.length), vR b101, vI (oN m1), vR t109]) rfl ?_
  refine XS.aload X109.here hx rfl (hb hby d54_35) rfl rfl ?_
  refine XS.iload X109.here hx rfl (hb hby d54_37) rfl ?_
  show SS p e below T109 m 39 #[vR a1, vI 0, vI (oN cs.length), vR b101, vI (oN m1), vR t109] [(.int (oN m1)), (.ref t109)] _
  refine st111 _ ?_
  show SS p e below T111 m 42 #[vR a1, vI 0, vI (oN cs.length), vR b101, vI (oN m1), vR t109] [(.int (StrChars.pairCh (StrChars.lo8 (cs.getD m1 0)) (StrChars.hi8 (cs.getD m1 0))))] _
  rw [hr113]
  refine XS.sipush X111.here hx rfl (hb hby d54_42) ?_
  refine XS.icmpYes X111.here hx rfl (pc0 := 45) (pc' := 61) rfl (hb hby d54_45) rfl (tlt (hend : (255 : Int32) < (cs.getD m1 0))).2.2.1 (by decide) (by decide) ?_
  refine XS.aload X111.here hx rfl (hb hby d54_61) rfl rfl ?_
  show SS p e below T111 m 63 #[vR a1, vI 0, vI (oN cs.length), vR b101, vI (oN m1), vR t109] [(.ref t109)] _
  exact X111.areturnOut hx rfl Bd.returns rfl (hb hby d54_63) hr
 ·show Q_rmCmp3B Z a1 cs mm k1 m1 fm h0 n0 _ T111.heap _
  rw [H111]
  exact ⟨_, _, rfl, N111, KC116, (by omega), V109⟩
theorem d21_0 : DK cD47 0 (.aload_n 0) 1 := by decide +kernel
theorem d21_1 : DK cD47 1 (.invokespecial 1) 3 := by decide +kernel
theorem d21_4 : DK cD47 4 (.aload_n 1) 1 := by decide +kernel
theorem d21_5 : DK cD47 5 (.invokevirtual 552) 3 := by decide +kernel
theorem d21_8 : DK cD47 8 (.astore_n 3) 1 := by decide +kernel
theorem d21_9 : DK cD47 9 (.aload_n 1) 1 := by decide +kernel
theorem d21_10 : DK cD47 10 (.invokevirtual 549) 3 := by decide +kernel
theorem d21_13 : DK cD47 13 (.istore 4) 2 := by decide +kernel
theorem d21_15 : DK cD47 15 (.aload_n 1) 1 := by decide +kernel
theorem d21_16 : DK cD47 16 (.invokevirtual 1047) 3 := by decide +kernel
theorem d21_19 : DK cD47 19 (.ifCond .eq 22) 3 := by decide +kernel
theorem d21_22 : DK cD47 22 (.aload_n 0) 1 := by decide +kernel
theorem d21_23 : DK cD47 23 (.iconst 0) 1 := by decide +kernel
theorem d21_24 : DK cD47 24 (.putfield 15) 3 := by decide +kernel
theorem d21_27 : DK cD47 27 (.aload_n 0) 1 := by decide +kernel
theorem d21_28 : DK cD47 28 (.aload_n 3) 1 := by decide +kernel
theorem d21_29 : DK cD47 29 (.iconst 0) 1 := by decide +kernel
theorem d21_30 : DK cD47 30 (.iload 4) 2 := by decide +kernel
theorem d21_32 : DK cD47 32 (.invokestatic 54) 3 := by decide +kernel
theorem d21_35 : DK cD47 35 (.putfield 9) 3 := by decide +kernel
theorem d21_38 : DK cD47 38 (.goto 59) 3 := by decide +kernel
theorem d21_97 : DK cD47 97 (.return_) 1 := by decide +kernel
theorem pd_17 : parseMethodDescriptor "()[B" = some ⟨[], some (.array .byte)⟩ := by decide +kernel
theorem ef_rmTs2L (m : MethodId) (y0 : Addr) (y1 : Addr) : entryFrame m #[(.ref y0), (.ref y1), .null] 5 = (mkF m 0 #[vR y0, vR y1, .val .null, .unset, .unset] []) := by first | (simp [entryFrame, mkF, argsToLocals, Value.category]; done) | rfl
def Q_rmTs2L (Z : State) (a1 : Addr) (a2 : Addr) (cs : List Int32) (cs0 : Int32) (v1 : Addr) (kv : ClassId) (ml : Int32) (h0 : Heap) (n0 : Nat) (v : Option Value) (h : Heap) (L : List Loc) : Prop := ∃ (t : Addr) (kb : ClassId), v = none ∧ Fr n0 L ∧ Keep h0 h [a1] ∧ Exa Z h a1 "java/lang/String" ∧ Fld Z h a1 "java/lang/String" "value" "[B" (.ref t) ∧ Fld Z h a1 "java/lang/String" "coder" "B" (.int 0) ∧ h0.size ≤ t ∧ @Ne Nat t a1 ∧ Arv Z h t kb .byte (oN (lat cs).length) ((lat cs).map Value.int) (.int 0)
theorem rmTs2L (l : Launch) (Z : State) (a0 : Array Value) (hw : HW a0 Z) (ws : List Jvm.Cond) (a1 : Addr) (a2 : Addr) (cs : List Int32) (cs0 : Int32) (v1 : Addr) (kv : ClassId) (ml : Int32) (h0 : Heap) (n0 : Nat) (O0 : Old Z n0 h0) (S_CS : SCS Z cs0) (c_CS : ¬ (cs0 = (0 : Int32))) (Eb : Exa Z h0 a2 "java/lang/StringBuilder") (Bv : Fld Z h0 a2 "java/lang/AbstractStringBuilder" "value" "[B" (.ref v1)) (Bc : Fld Z h0 a2 "java/lang/AbstractStringBuilder" "coder" "B" (.int 0)) (Bn : Fld Z h0 a2 "java/lang/AbstractStringBuilder" "count" "I" (.int (oN (lat cs).length))) (Bm : Fld Z h0 a2 "java/lang/AbstractStringBuilder" "maybeLatin1" "Z" (.int ml)) (Vb : Arv Z h0 v1 kv .byte (oN ((lat cs).length + 16)) ((lat cs).map Value.int) (.int 0)) (hn : (lat cs).length ≤ 4) (g1 : n0 ≤ a1) (E1 : Exa Z h0 a1 "java/lang/String") (F1 : Fld Z h0 a1 "java/lang/String" "value" "[B" .null) (F2 : Fld Z h0 a1 "java/lang/String" "coder" "B" (.int 0)) (n12 : @Ne Nat a1 a2) (n1v : @Ne Nat a1 v1) :
  MF l mN47 jdk_42_method_150_code 5 none ws (Rm 5 2 44 140) Z #[(.ref a1), (.ref a2), .null] h0 (Q_rmTs2L Z a1 a2 cs cs0 v1 kv ml h0 n0) := by
 refine MetFree.of_bodySF (plainFor_of_name pn_2) hisR ?_
 intro p e s m args below meth c s₁ Bd hml0 hP hK
 obtain ⟨rfl, hZ, hh⟩ := hP
 have hx := Bd.exec
 have hby := Bd.bytes
 have hml : c.maxLocals = 5 := hml0
 have hown : s.vm.findClass "java/lang/String" = some m.cls := findClass_of_methodNamed Bd.named
 have hnm := (name_of_methodNamed Bd.named Bd.method).1
 have X0 : Stand p l e (Rm 5 2 44 140) s m #[(.ref a1), (.ref a2), .null] below meth c s₁ [] 0 0 := Stand.of_body Bd
 have e0 : s₁.heap = h0 := by rw [← hh, Bd.state]; rfl
 have N0 := Fr.nil n0
 have hn0 : n0 ≤ h0.size := O0.1 ▸ O0.2.1
 have pre0 : ∀ t, SS p e below s₁ m 0 #[vR a1, vR a2, .val .null, .unset, .unset] [] t → SE p e below s₁ m #[(.ref a1), (.ref a2), .null] 5 t := fun t k => castTop (ef_rmTs2L m a1 a2) k
 have lt_a1 : @LT.lt Nat _ a1 h0.size := E1.lt
 have lt_a2 : @LT.lt Nat _ a2 h0.size := Eb.lt
 have lt_v1 : @LT.lt Nat _ v1 h0.size := Vb.lt
 obtain ⟨T101, X101, e101, st101⟩ := initO X0 hx hZ hown (tw hw 16 rfl) (tw hw 17 rfl) (tw hw 18 rfl) e0 (g := (mkF m 1 #[vR a1, vR a2, .val .null, .unset, .unset] [(.ref a1)])) rfl (by rw [hml]; rfl) rfl (hb hby d21_1) (by decide) (W := 0) (wL _) (by decide)
 obtain ⟨cq102, kq102, q102a, q102b, q102c⟩ := isOf hZ e101 Eb
 obtain ⟨_, _, ⟨T102, L102, k102, n102⟩, -, X102, ⟨Lc102, hQ102, l102, y102, z102⟩, st102⟩ := X101.virtualBack hx (y := mN22) (z := mN22) hown (mvT hZ (tw hw 123 rfl)) (mvT hZ (tw hw 124 rfl)) (notFace_of_selects (args := #[]) (mvT hZ (tw hw 126 rfl))) (mvT hZ (tw hw 126 rfl)) (mvT hZ (tw hw 125 rfl)) (by decide) (backOf (W := 0) (rmGValL l Z a0 hw [] a2 cs cs0 v1 kv ((lat cs).length) ml h0 n0 O0 S_CS c_CS Eb Bv Bc Bn Bm Vb) hZ (tw hw 127 rfl) (tw hw 41 rfl) (by decide) (by decide)) q102a q102c (g := (mkF m 5 #[vR a1, vR a2, .val .null, .unset, .unset] [(.ref a2)])) rfl (by rw [hml]; rfl) (Steps.refl _) (argsL := []) (rest := []) (lenOf pd_17 rfl) rfl (wL _) (hb hby d21_5) (fun _ _ => ⟨rfl, e101, (by decide : 0 + 0 ≤ _), (by decide : 0 + 0 ≤ _)⟩)
 dsimp only [Pt.U, Pt.locs, Pt.cells, Pt.slots] at X102 l102 y102 z102 st102 hQ102
 subst l102 y102 z102
 obtain ⟨rfl, N102q, H102⟩ := hQ102
 have N102 := Fr.app N0 N102q
 obtain ⟨cq103, kq103, q103a, q103b, q103c⟩ := isOf hZ H102 Eb
 obtain ⟨_, _, ⟨T103, L103, k103, n103⟩, -, X103, ⟨Lc103, hQ103, l103, y103, z103⟩, st103⟩ := X102.virtualBack hx (y := mN20) (z := mN21) hown (mvT hZ (tw hw 128 rfl)) (mvT hZ (tw hw 109 rfl)) (own_nface (a0 := #[]) (y := mN20) (mvT hZ (tw hw 80 rfl)) rfl) (mvT hZ (tw hw 129 rfl)) (mvT hZ (tw hw 104 rfl)) (by decide) (backOf (W := 0) (rmBLenL l Z a0 hw [] a2 cs cs0 v1 kv ((lat cs).length) ml h0 n0 O0 S_CS c_CS Eb Bv Bc Bn Bm Vb) hZ (tw hw 106 rfl) (tw hw 33 rfl) (by decide) (by decide)) q103a q103c (g := (mkF m 10 #[vR a1, vR a2, .val .null, vR v1, .unset] [(.ref a2)])) rfl (by rw [hml]; rfl) (Steps.refl _) (argsL := []) (rest := []) (lenOf pd_6 rfl) rfl (wL _) (hb hby d21_10) (fun _ _ => ⟨rfl, H102, (by decide : 0 + 0 ≤ _), (by decide : 0 + 0 ≤ _)⟩)
 dsimp only [Pt.U, Pt.locs, Pt.cells, Pt.slots] at X103 l103 y103 z103 st103 hQ103
 subst l103 y103 z103
 obtain ⟨rfl, N103q, H103⟩ := hQ103
 have N103 := Fr.app N102 N103q
 obtain ⟨cq104, kq104, q104a, q104b, q104c⟩ := isOf hZ H103 Eb
 obtain ⟨_, _, ⟨T104, L104, k104, n104⟩, -, X104, ⟨Lc104, hQ104, l104, y104, z104⟩, st104⟩ := X103.virtualBack hx (y := mN19) (z := mN19) hown (mvT hZ (tw hw 130 rfl)) (mvT hZ (tw hw 131 rfl)) (notFace_of_selects (args := #[]) (mvT hZ (tw hw 133 rfl))) (mvT hZ (tw hw 133 rfl)) (mvT hZ (tw hw 132 rfl)) (by decide) (backOf (W := 0) (rmBLatL l Z a0 hw [] a2 cs cs0 v1 kv ((lat cs).length) ml h0 n0 O0 S_CS c_CS Eb Bv Bc Bn Bm Vb) hZ (tw hw 134 rfl) (tw hw 41 rfl) (by decide) (by decide)) q104a q104c (g := (mkF m 16 #[vR a1, vR a2, .val .null, vR v1, vI (oN (lat cs).length)] [(.ref a2)])) rfl (by rw [hml]; rfl) (Steps.refl _) (argsL := []) (rest := []) (lenOf pd_18 rfl) rfl (wL _) (hb hby d21_16) (fun _ _ => ⟨rfl, H103, (by decide : 0 + 0 ≤ _), (by decide : 0 + 0 ≤ _)⟩)
 dsimp only [Pt.U, Pt.locs, Pt.cells, Pt.slots] at X104 l104 y104 z104 st104 hQ104
 subst l104 y104 z104
 obtain ⟨rfl, N104q, H104⟩ := hQ104
 have N104 := Fr.app N103 N104q
 obtain ⟨T105, h105, X105, e105, W105, st105⟩ := putFN X104 hx hZ hown (tw hw 26 rfl) Via.refl H104 F2 E1 (Or.inr ⟨(tw hw 22 rfl), rfl, hnm⟩) (tw hw 7 rfl) (ty := .byte) (v' := (.int 0)) (by decide) rfl rfl (g := (mkF m 24 #[vR a1, vR a2, .val .null, vR v1, vI (oN (lat cs).length)] [(.int 0), (.ref a1)])) rfl rfl (hb hby d21_24)
 have K105 := Keep.of_wr W105
 have Fw105 := Fld.same W105 F2
 have N105 := Fr.snoc X105 N104 (by omega : @LE.le Nat _ n0 a1)
 have sz1_K105 := K105.1
 have C107 := Vb.keep K105 (ninS (by omega : @Ne Nat v1 a1) (nin0))
 have O108 : Old Z n0 h105 := O0.keep K105 (allS (by omega) (all0))
 obtain ⟨_, _, ⟨T106, L106, k106, n106⟩, -, X106, ⟨Lc106, hQ106, l106, y106, z106⟩, st106⟩ := Jvm.LawKit.callS X105 hx (y := mN16) hown (mvT hZ (tw hw 135 rfl)) (mvT hZ (tw hw 136 rfl)) (mvT hZ (tw hw 137 rfl)) (mvT hZ (tw hw 138 rfl)) (by decide) (backOf (W := 1) (rmCr l Z a0 hw [] v1 ((lat cs).length) ((lat cs).length + 16) kv ((lat cs).map Value.int) h105 n0 O108 C107 (List.length_map ..) (by omega) (by omega) (by omega)) hZ (tw hw 138 rfl) (tw hw 137 rfl) (by decide) (by decide)) (g := (mkF m 32 #[vR a1, vR a2, .val .null, vR v1, vI (oN (lat cs).length)] [(.int (oN (lat cs).length)), (.int 0), (.ref v1), (.ref a1)])) rfl (by rw [hml]; rfl) (argsL := [(.ref v1), (.int 0), (.int (oN (lat cs).length))]) (rest := [(.ref a1)]) (lenOf pd_19 rfl) rfl (wL _) (hb hby d21_32) (fun _ _ => ⟨rfl, e105, (by decide : 0 + 1 ≤ _), (by decide : 0 + 40 ≤ _)⟩)
 dsimp only [Pt.U, Pt.locs, Pt.cells, Pt.slots] at X106 l106 y106 z106 st106 hQ106
 subst l106 y106 z106
 obtain ⟨t106, kb106, rfl, N106q, K106, gt106, V106⟩ := hQ106
 have lt106 : @LT.lt Nat _ t106 T106.heap.size := V106.lt
 have sz2_K106 := K106.1
 have N106 := Fr.app N105 N106q
 have KD109 : Keep h0 T106.heap [a1] := ((Keep.refl _ _).trans K105 (allS (Or.inl (List.mem_of_getElem? (i := 0) rfl)) (all0))).trans K106 (all0)
 have C110 := E1.keep KD109
 have C111 := Fld.other W105 F1 (Or.inr (slot_ne (Or.inr (tw hw 21 rfl)) (Or.inr (tw hw 22 rfl)) (by decide) (t := (.array .byte)) (t' := .byte) (by decide) (by decide)))
 have C112 := C111.keep K106 nin0
 obtain ⟨T113, h113, X113, e113, W113, st113⟩ := putF X106 hx hZ hown (host := "") (Or.inl (tw hw 25 rfl)) Via.refl rfl C112 C110 (Or.inr ⟨(tw hw 21 rfl), rfl, hnm⟩) (tw hw 7 rfl) (ty := (.array .byte)) (by decide) rfl rfl (g := (mkF m 35 #[vR a1, vR a2, .val .null, vR v1, vI (oN (lat cs).length)] [(.ref t106), (.ref a1)])) rfl rfl (hb hby d21_35)
 have K113 := Keep.of_wr W113
 have Fw113 := Fld.same W113 C112
 have N113 := Fr.snoc X113 N106 (by omega : @LE.le Nat _ n0 a1)
 have sz3_K113 := K113.1
 have KC114 : Keep h0 h105 [a1] := (Keep.refl h0 [a1]).trans K105 (allS (Or.inl (List.mem_of_getElem? (i := 0) rfl)) (all0))
 have KC115 : Keep h0 T106.heap [a1] := KC114.trans K106 (all0)
 have KC116 : Keep h0 h113 [a1] := KC115.trans K113 (allS (Or.inl (List.mem_of_getElem? (i := 0) rfl)) (all0))
 have C117 := C110.keep K113
 have C118 := Fw105.keep K106 nin0
 have C119 := Fld.other W113 C118 (Or.inr (slot_ne (Or.inr (tw hw 22 rfl)) (Or.inr (tw hw 21 rfl)) (by decide) (t := .byte) (t' := (.array .byte)) (by decide) (by decide)))
 have C120 := V106.keep K113 (ninS (by omega : @Ne Nat t106 a1) (nin0))
 obtain ⟨fs, hr, hrun, hended, hW, hsame⟩ := X113.leave (v := none) (fun _ => rfl)
 refine ⟨_, _, pre0 _ ?_, hrun, hended, _, _, rfl, ?_, ⟨_, rfl⟩, hW, hsame.mono (by decide) (by decide)⟩
 ·skip
  show SS p e below s₁ m 0 #[vR a1, vR a2, .val .null, .unset, .unset] [] _
  refine XS.aloadN X0.here hx rfl (hb hby d21_0) rfl rfl ?_
  show SS p e below s₁ m 1 #[vR a1, vR a2, .val .null, .unset, .unset] [(.ref a1)] _
  refine st101 _ ?_
  refine XS.aloadN X101.here hx rfl (hb hby d21_4) rfl rfl ?_
  show SS p e below T101 m 5 #[vR a1, vR a2, .val .null, .unset, .unset] [(.ref a2)] _
  refine st102.trans ?_
  refine XS.astoreN X102.here hx rfl (hb hby d21_8) rfl rfl (l' := #[vR a1, vR a2, .val .null, vR v1, .unset]) rfl ?_
  refine XS.aloadN X102.here hx rfl (hb hby d21_9) rfl rfl ?_
  show SS p e below T102 m 10 #[vR a1, vR a2, .val .null, vR v1, .unset] [(.ref a2)] _
  refine st103.trans ?_
  refine XS.istore X103.here hx rfl (hb hby d21_13) rfl (l' := #[vR a1, vR a2, .val .null, vR v1, vI (oN (lat cs).length)]) rfl ?_
  refine XS.aloadN X103.here hx rfl (hb hby d21_15) rfl rfl ?_
  show SS p e below T103 m 16 #[vR a1, vR a2, .val .null, vR v1, vI (oN (lat cs).length)] [(.ref a2)] _
  refine st104.trans ?_
  refine XS.ifNo X104.here hx rfl (hb hby d21_19) rfl ((if0 _ _).trans (feq (by decide : ¬ ((1 : Int32) = (0 : Int32)))).1) ?_
  refine XS.aloadN X104.here hx rfl (hb hby d21_22) rfl rfl ?_
  refine XS.iconst X104.here hx rfl (hb hby d21_23) ?_
  show SS p e below T104 m 24 #[vR a1, vR a2, .val .null, vR v1, vI (oN (lat cs).length)] [(.int 0), (.ref a1)] _
  refine st105 _ ?_
  refine XS.aloadN X105.here hx rfl (hb hby d21_27) rfl rfl ?_
  refine XS.aloadN X105.here hx rfl (hb hby d21_28) rfl rfl ?_
  refine XS.iconst X105.here hx rfl (hb hby d21_29) ?_
  refine XS.iload X105.here hx rfl (hb hby d21_30) rfl ?_
  show SS p e below T105 m 32 #[vR a1, vR a2, .val .null, vR v1, vI (oN (lat cs).length)] [(.int (oN (lat cs).length)), (.int 0), (.ref v1), (.ref a1)] _
  refine st106 _ ?_
  show SS p e below T106 m 35 #[vR a1, vR a2, .val .null, vR v1, vI (oN (lat cs).length)] [(.ref t106), (.ref a1)] _
  refine st113 _ ?_
  refine XS.goto X113.here hx rfl (pc0 := 38) (pc' := 97) rfl (hb hby d21_38) (by decide) (by decide) ?_
  show SS p e below T113 m 97 #[vR a1, vR a2, .val .null, vR v1, vI (oN (lat cs).length)] [] _
  exact X113.returnOut hx Bd.returns (hb hby d21_97) hr
 ·show Q_rmTs2L Z a1 a2 cs cs0 v1 kv ml h0 n0 _ T113.heap _
  rw [e113]
  exact ⟨_, _, rfl, N113, KC116, C117, Fw113, C119, (by omega), (by omega), C120⟩
theorem d20_0 : DK cD48 0 (.aload_n 0) 1 := by decide +kernel
theorem d20_1 : DK cD48 1 (.aload_n 1) 1 := by decide +kernel
theorem d20_2 : DK cD48 2 (.aconst_null) 1 := by decide +kernel
theorem d20_3 : DK cD48 3 (.invokespecial 489) 3 := by decide +kernel
theorem d20_6 : DK cD48 6 (.return_) 1 := by decide +kernel
theorem pd_16 : parseMethodDescriptor "(Ljava/lang/AbstractStringBuilder;Ljava/lang/Void;)V" = some ⟨[(.object "java/lang/AbstractStringBuilder"), (.object "java/lang/Void")], none⟩ := by decide +kernel
theorem ef_rmTs1L (m : MethodId) (y0 : Addr) (y1 : Addr) : entryFrame m #[(.ref y0), (.ref y1)] 2 = (mkF m 0 #[vR y0, vR y1] []) := by first | (simp [entryFrame, mkF, argsToLocals, Value.category]; done) | rfl
def Q_rmTs1L (Z : State) (a1 : Addr) (a2 : Addr) (cs : List Int32) (cs0 : Int32) (v1 : Addr) (kv : ClassId) (ml : Int32) (h0 : Heap) (n0 : Nat) (v : Option Value) (h : Heap) (L : List Loc) : Prop := ∃ (t : Addr) (kb : ClassId), v = none ∧ Fr n0 L ∧ Keep h0 h [a1] ∧ Exa Z h a1 "java/lang/String" ∧ Fld Z h a1 "java/lang/String" "value" "[B" (.ref t) ∧ Fld Z h a1 "java/lang/String" "coder" "B" (.int 0) ∧ h0.size ≤ t ∧ @Ne Nat t a1 ∧ Arv Z h t kb .byte (oN (lat cs).length) ((lat cs).map Value.int) (.int 0)
theorem rmTs1L (l : Launch) (Z : State) (a0 : Array Value) (hw : HW a0 Z) (ws : List Jvm.Cond) (a1 : Addr) (a2 : Addr) (cs : List Int32) (cs0 : Int32) (v1 : Addr) (kv : ClassId) (ml : Int32) (h0 : Heap) (n0 : Nat) (O0 : Old Z n0 h0) (S_CS : SCS Z cs0) (c_CS : ¬ (cs0 = (0 : Int32))) (Eb : Exa Z h0 a2 "java/lang/StringBuilder") (Bv : Fld Z h0 a2 "java/lang/AbstractStringBuilder" "value" "[B" (.ref v1)) (Bc : Fld Z h0 a2 "java/lang/AbstractStringBuilder" "coder" "B" (.int 0)) (Bn : Fld Z h0 a2 "java/lang/AbstractStringBuilder" "count" "I" (.int (oN (lat cs).length))) (Bm : Fld Z h0 a2 "java/lang/AbstractStringBuilder" "maybeLatin1" "Z" (.int ml)) (Vb : Arv Z h0 v1 kv .byte (oN ((lat cs).length + 16)) ((lat cs).map Value.int) (.int 0)) (hn : (lat cs).length ≤ 4) (g1 : n0 ≤ a1) (E1 : Exa Z h0 a1 "java/lang/String") (F1 : Fld Z h0 a1 "java/lang/String" "value" "[B" .null) (F2 : Fld Z h0 a1 "java/lang/String" "coder" "B" (.int 0)) (n12 : @Ne Nat a1 a2) (n1v : @Ne Nat a1 v1) :
  MF l mN48 jdk_42_method_53_code 2 none ws (Rm 6 2 44 160) Z #[(.ref a1), (.ref a2)] h0 (Q_rmTs1L Z a1 a2 cs cs0 v1 kv ml h0 n0) := by
 refine MetFree.of_bodySF (plainFor_of_name pn_2) hisR ?_
 intro p e s m args below meth c s₁ Bd hml0 hP hK
 obtain ⟨rfl, hZ, hh⟩ := hP
 have hx := Bd.exec
 have hby := Bd.bytes
 have hml : c.maxLocals = 2 := hml0
 have hown : s.vm.findClass "java/lang/String" = some m.cls := findClass_of_methodNamed Bd.named
 have X0 : Stand p l e (Rm 6 2 44 160) s m #[(.ref a1), (.ref a2)] below meth c s₁ [] 0 0 := Stand.of_body Bd
 have e0 : s₁.heap = h0 := by rw [← hh, Bd.state]; rfl
 have N0 := Fr.nil n0
 have hn0 : n0 ≤ h0.size := O0.1 ▸ O0.2.1
 have pre0 : ∀ t, SS p e below s₁ m 0 #[vR a1, vR a2] [] t → SE p e below s₁ m #[(.ref a1), (.ref a2)] 2 t := fun t k => castTop (ef_rmTs1L m a1 a2) k
 have lt_a1 : @LT.lt Nat _ a1 h0.size := E1.lt
 have lt_a2 : @LT.lt Nat _ a2 h0.size := Eb.lt
 have lt_v1 : @LT.lt Nat _ v1 h0.size := Vb.lt
 obtain ⟨_, _, ⟨T101, L101, k101, n101⟩, -, X101, ⟨Lc101, hQ101, l101, y101, z101⟩, st101⟩ := X0.specialBack hx (y := mN47) rfl hown (mvT hZ (tw hw 120 rfl)) (mvT hZ (tw hw 121 rfl)) (mvT hZ (tw hw 122 rfl)) (by decide) (backOf (W := 0) (rmTs2L l Z a0 hw [] a1 a2 cs cs0 v1 kv ml h0 n0 O0 S_CS c_CS Eb Bv Bc Bn Bm Vb hn (by omega : @LE.le Nat _ n0 a1) E1 F1 F2 (by omega) (by omega)) hZ (tw hw 122 rfl) (tw hw 8 rfl) (by decide) (by decide)) (g := (mkF m 3 #[vR a1, vR a2] [.null, (.ref a2), (.ref a1)])) rfl (by rw [hml]; rfl) (Steps.refl _) (a := a1) (argsL := [(.ref a2), .null]) (rest := []) (lenOf pd_16 rfl) rfl (wL _) (hb hby d20_3) (fun _ _ => ⟨rfl, e0, (by decide : 0 + 2 ≤ _), (by decide : 0 + 44 ≤ _)⟩)
 dsimp only [Pt.U, Pt.locs, Pt.cells, Pt.slots] at X101 l101 y101 z101 st101 hQ101
 subst l101 y101 z101
 obtain ⟨t101, kb101, rfl, N101q, K101, E101, Fv101, Fc101, gt101, tx101, V101⟩ := hQ101
 have lt101 : @LT.lt Nat _ t101 T101.heap.size := V101.lt
 have sz1_K101 := K101.1
 have N101 := Fr.app N0 N101q
 have KC102 : Keep h0 T101.heap [a1] := (Keep.refl h0 [a1]).trans K101 (allS (Or.inl (List.mem_of_getElem? (i := 0) rfl)) (all0))
 obtain ⟨fs, hr, hrun, hended, hW, hsame⟩ := X101.leave (v := none) (fun _ => rfl)
 refine ⟨_, _, pre0 _ ?_, hrun, hended, _, _, rfl, ?_, ⟨_, rfl⟩, hW, hsame.mono (by decide) (by decide)⟩
 ·skip
  show SS p e below s₁ m 0 #[vR a1, vR a2] [] _
  refine XS.aloadN X0.here hx rfl (hb hby d20_0) rfl rfl ?_
  refine XS.aloadN X0.here hx rfl (hb hby d20_1) rfl rfl ?_
  refine XS.aconstNull X0.here hx rfl (hb hby d20_2) ?_
  show SS p e below s₁ m 3 #[vR a1, vR a2] [.null, (.ref a2), (.ref a1)] _
  refine st101.trans ?_
  show SS p e below T101 m 6 #[vR a1, vR a2] [] _
  exact X101.returnOut hx Bd.returns (hb hby d20_6) hr
 ·show Q_rmTs1L Z a1 a2 cs cs0 v1 kv ml h0 n0 _ T101.heap _
  exact ⟨_, _, rfl, N101, KC102, E101, Fv101, Fc101, (by omega), (by omega), V101⟩
theorem d19_0 : DK cD49 0 (.new 18) 3 := by decide +kernel
theorem d19_3 : DK cD49 3 (.dup) 1 := by decide +kernel
theorem d19_4 : DK cD49 4 (.aload_n 0) 1 := by decide +kernel
theorem d19_5 : DK cD49 5 (.invokespecial 137) 3 := by decide +kernel
theorem d19_8 : DK cD49 8 (.areturn) 1 := by decide +kernel
theorem pd_15 : parseMethodDescriptor "(Ljava/lang/StringBuilder;)V" = some ⟨[(.object "java/lang/StringBuilder")], none⟩ := by decide +kernel
theorem ef_rmTsL (m : MethodId) (y0 : Addr) : entryFrame m #[(.ref y0)] 1 = (mkF m 0 #[vR y0] []) := by first | (simp [entryFrame, mkF, argsToLocals, Value.category]; done) | rfl
def Q_rmTsL (Z : State) (a1 : Addr) (cs : List Int32) (cs0 : Int32) (v1 : Addr) (kv : ClassId) (ml : Int32) (h0 : Heap) (n0 : Nat) (v : Option Value) (h : Heap) (L : List Loc) : Prop := ∃ (x t : Addr) (kb : ClassId), v = some (.ref x) ∧ Fr n0 L ∧ Keep h0 h [] ∧ h0.size ≤ x ∧ Exa Z h x "java/lang/String" ∧ Fld Z h x "java/lang/String" "value" "[B" (.ref t) ∧ Fld Z h x "java/lang/String" "coder" "B" (.int 0) ∧ h0.size ≤ t ∧ @Ne Nat t x ∧ Arv Z h t kb .byte (oN (lat cs).length) ((lat cs).map Value.int) (.int 0)
theorem rmTsL (l : Launch) (Z : State) (a0 : Array Value) (hw : HW a0 Z) (ws : List Jvm.Cond) (a1 : Addr) (cs : List Int32) (cs0 : Int32) (v1 : Addr) (kv : ClassId) (ml : Int32) (h0 : Heap) (n0 : Nat) (O0 : Old Z n0 h0) (S_CS : SCS Z cs0) (c_CS : ¬ (cs0 = (0 : Int32))) (Eb : Exa Z h0 a1 "java/lang/StringBuilder") (Bv : Fld Z h0 a1 "java/lang/AbstractStringBuilder" "value" "[B" (.ref v1)) (Bc : Fld Z h0 a1 "java/lang/AbstractStringBuilder" "coder" "B" (.int 0)) (Bn : Fld Z h0 a1 "java/lang/AbstractStringBuilder" "count" "I" (.int (oN (lat cs).length))) (Bm : Fld Z h0 a1 "java/lang/AbstractStringBuilder" "maybeLatin1" "Z" (.int ml)) (Vb : Arv Z h0 v1 kv .byte (oN ((lat cs).length + 16)) ((lat cs).map Value.int) (.int 0)) (hn : (lat cs).length ≤ 4) :
  MF l mN49 jdk_67_method_42_code 1 (some (.object "java/lang/String")) ws (Rm 7 3 48 180) Z #[(.ref a1)] h0 (Q_rmTsL Z a1 cs cs0 v1 kv ml h0 n0) := by
 refine MetFree.of_bodySF (plainFor_of_name pn_6) hisR ?_
 intro p e s m args below meth c s₁ Bd hml0 hP hK
 obtain ⟨rfl, hZ, hh⟩ := hP
 have hx := Bd.exec
 have hby := Bd.bytes
 have hml : c.maxLocals = 1 := hml0
 have hown : s.vm.findClass "java/lang/StringBuilder" = some m.cls := findClass_of_methodNamed Bd.named
 have X0 : Stand p l e (Rm 7 3 48 180) s m #[(.ref a1)] below meth c s₁ [] 0 0 := Stand.of_body Bd
 have e0 : s₁.heap = h0 := by rw [← hh, Bd.state]; rfl
 have N0 := Fr.nil n0
 have hn0 : n0 ≤ h0.size := O0.1 ▸ O0.2.1
 have pre0 : ∀ t, SS p e below s₁ m 0 #[vR a1] [] t → SE p e below s₁ m #[(.ref a1)] 1 t := fun t k => castTop (ef_rmTsL m a1) k
 have lt_a1 : @LT.lt Nat _ a1 h0.size := Eb.lt
 have lt_v1 : @LT.lt Nat _ v1 h0.size := Vb.lt
 obtain ⟨T101, h101, X101, e101, E101, A101, D101, -, st101⟩ := newO X0 hx hZ hown (tw hw 116 rfl) (tw hw 7 rfl) (tw hw 8 rfl) e0 (g := (mkF m 0 #[vR a1] [])) rfl (hb hby d19_0) (by decide) (by decide)
 obtain ⟨b101, g101⟩ : ∃ z, z = h0.size := ⟨_, rfl⟩
 rw [← g101] at A101 D101 st101
 have lt101 : @LT.lt Nat _ b101 h101.size := A101.lt
 have K101 : Keep h0 h101 [] := (Keep.refl _ _).ext E101
 have sz1_K101 := K101.1
 have F101_value : Fld Z h101 b101 "java/lang/String" "value" "[B" .null := D101 (Or.inr (tw hw 21 rfl)) (ty := (.array .byte)) (by decide)
 have F101_coder : Fld Z h101 b101 "java/lang/String" "coder" "B" (.int 0) := D101 (Or.inr (tw hw 22 rfl)) (ty := .byte) (by decide)
 have C103 := Eb.keep K101
 have C104 := Bv.keep K101 nin0
 have C105 := Bc.keep K101 nin0
 have C106 := Bn.keep K101 nin0
 have C107 := Bm.keep K101 nin0
 have C108 := Vb.keep K101 nin0
 have O109 : Old Z n0 h101 := O0.keep K101 all0
 obtain ⟨_, _, ⟨T102, L102, k102, n102⟩, -, X102, ⟨Lc102, hQ102, l102, y102, z102⟩, st102⟩ := X101.specialBack hx (y := mN48) rfl hown (mvT hZ (tw hw 117 rfl)) (mvT hZ (tw hw 118 rfl)) (mvT hZ (tw hw 119 rfl)) (by decide) (backOf (W := 1) (rmTs1L l Z a0 hw [] b101 a1 cs cs0 v1 kv ml h101 n0 O109 S_CS c_CS C103 C104 C105 C106 C107 C108 hn (by omega : @LE.le Nat _ n0 b101) A101 F101_value F101_coder (by omega) (by omega)) hZ (tw hw 119 rfl) (tw hw 8 rfl) (by decide) (by decide)) (g := (mkF m 5 #[vR a1] [(.ref a1), (.ref b101), (.ref b101)])) rfl (by rw [hml]; rfl) (Steps.refl _) (a := b101) (argsL := [(.ref a1)]) (rest := [(.ref b101)]) (lenOf pd_15 rfl) rfl (wL _) (hb hby d19_5) (fun _ _ => ⟨rfl, e101, (by decide : 1 + 2 ≤ _), (by decide : 4 + 44 ≤ _)⟩)
 dsimp only [Pt.U, Pt.locs, Pt.cells, Pt.slots] at X102 l102 y102 z102 st102 hQ102
 subst l102 y102 z102
 obtain ⟨t102, kb102, rfl, N102q, K102, E102, Fv102, Fc102, gt102, tx102, V102⟩ := hQ102
 have lt102 : @LT.lt Nat _ t102 T102.heap.size := V102.lt
 have sz2_K102 := K102.1
 have N102 := Fr.app N0 N102q
 have KC110 : Keep h0 h101 [] := (Keep.refl h0 []).trans K101 (all0)
 have KC111 : Keep h0 T102.heap [] := KC110.trans K102 (allS (Or.inr (by omega)) (all0))
 obtain ⟨fs, hr, hrun, hended, hW, hsame⟩ := X102.leave (v := some (.ref b101)) (nvr Bd.returns)
 refine ⟨_, _, pre0 _ ?_, hrun, hended, _, _, rfl, ?_, ⟨_, rfl⟩, hW, hsame.mono (by decide) (by decide)⟩
 ·skip
  show SS p e below s₁ m 0 #[vR a1] [] _
  refine st101 _ ?_
  refine XS.dup X101.here hx rfl (hb hby d19_3) rfl rfl ?_
  refine XS.aloadN X101.here hx rfl (hb hby d19_4) rfl rfl ?_
  show SS p e below T101 m 5 #[vR a1] [(.ref a1), (.ref b101), (.ref b101)] _
  refine st102.trans ?_
  show SS p e below T102 m 8 #[vR a1] [(.ref b101)] _
  exact X102.areturnOut hx rfl Bd.returns rfl (hb hby d19_8) hr
 ·show Q_rmTsL Z a1 cs cs0 v1 kv ml h0 n0 _ T102.heap _
  exact ⟨_, _, _, rfl, N102, KC111, (by omega), E102, Fv102, Fc102, (by omega), (by omega), V102⟩
theorem d21_41 : DK cD47 41 (.getstatic 38) 3 := by decide +kernel
theorem d21_44 : DK cD47 44 (.ifCond .eq 35) 3 := by decide +kernel
theorem d21_47 : DK cD47 47 (.aload_n 1) 1 := by decide +kernel
theorem d21_48 : DK cD47 48 (.getfield 1048) 3 := by decide +kernel
theorem d21_51 : DK cD47 51 (.ifCond .eq 28) 3 := by decide +kernel
theorem d21_54 : DK cD47 54 (.aload_n 0) 1 := by decide +kernel
theorem d21_55 : DK cD47 55 (.aload_n 3) 1 := by decide +kernel
theorem d21_56 : DK cD47 56 (.iconst 0) 1 := by decide +kernel
theorem d21_57 : DK cD47 57 (.iload 4) 2 := by decide +kernel
theorem d21_59 : DK cD47 59 (.invokestatic 1051) 3 := by decide +kernel
theorem d21_62 : DK cD47 62 (.putfield 9) 3 := by decide +kernel
theorem d21_65 : DK cD47 65 (.aload_n 0) 1 := by decide +kernel
theorem d21_66 : DK cD47 66 (.aload_n 0) 1 := by decide +kernel
theorem d21_67 : DK cD47 67 (.getfield 9) 3 := by decide +kernel
theorem d21_70 : DK cD47 70 (.iload 4) 2 := by decide +kernel
theorem d21_72 : DK cD47 72 (.invokestatic 47) 3 := by decide +kernel
theorem d21_75 : DK cD47 75 (.putfield 15) 3 := by decide +kernel
theorem d21_78 : DK cD47 78 (.return_) 1 := by decide +kernel
theorem d21_79 : DK cD47 79 (.aload_n 0) 1 := by decide +kernel
theorem d21_80 : DK cD47 80 (.iconst 1) 1 := by decide +kernel
theorem d21_81 : DK cD47 81 (.putfield 15) 3 := by decide +kernel
theorem d21_84 : DK cD47 84 (.aload_n 0) 1 := by decide +kernel
theorem d21_85 : DK cD47 85 (.aload_n 3) 1 := by decide +kernel
theorem d21_86 : DK cD47 86 (.iconst 0) 1 := by decide +kernel
theorem d21_87 : DK cD47 87 (.iload 4) 2 := by decide +kernel
theorem d21_89 : DK cD47 89 (.iconst 1) 1 := by decide +kernel
theorem d21_90 : DK cD47 90 (.ishl) 1 := by decide +kernel
theorem d21_91 : DK cD47 91 (.invokestatic 54) 3 := by decide +kernel
theorem d21_94 : DK cD47 94 (.putfield 9) 3 := by decide +kernel
theorem ef_rmTs2U (m : MethodId) (y0 : Addr) (y1 : Addr) : entryFrame m #[(.ref y0), (.ref y1), .null] 5 = (mkF m 0 #[vR y0, vR y1, .val .null, .unset, .unset] []) := by first | (simp [entryFrame, mkF, argsToLocals, Value.category]; done) | rfl
def Q_rmTs2U (Z : State) (a1 : Addr) (a2 : Addr) (cs : List Int32) (cs0 : Int32) (v1 : Addr) (kv : ClassId) (ml : Int32) (m1 : Nat) (fm : Value) (h0 : Heap) (n0 : Nat) (v : Option Value) (h : Heap) (L : List Loc) : Prop := ∃ (t : Addr) (kb : ClassId), v = none ∧ Fr n0 L ∧ Keep h0 h [a1] ∧ Exa Z h a1 "java/lang/String" ∧ Fld Z h a1 "java/lang/String" "value" "[B" (.ref t) ∧ Fld Z h a1 "java/lang/String" "coder" "B" (.int 1) ∧ h0.size ≤ t ∧ @Ne Nat t a1 ∧ Arv Z h t kb .byte (oN (2 * cs.length)) (u16 cs) (.int 0)
theorem rmTs2U (l : Launch) (Z : State) (a0 : Array Value) (hw : HW a0 Z) (ws : List Jvm.Cond) (a1 : Addr) (a2 : Addr) (cs : List Int32) (cs0 : Int32) (v1 : Addr) (kv : ClassId) (ml : Int32) (m1 : Nat) (fm : Value) (h0 : Heap) (n0 : Nat) (O0 : Old Z n0 h0) (S_CS : SCS Z cs0) (c_CS : ¬ (cs0 = (0 : Int32))) (Eb : Exa Z h0 a2 "java/lang/StringBuilder") (Bv : Fld Z h0 a2 "java/lang/AbstractStringBuilder" "value" "[B" (.ref v1)) (Bc : Fld Z h0 a2 "java/lang/AbstractStringBuilder" "coder" "B" (.int 1)) (Bn : Fld Z h0 a2 "java/lang/AbstractStringBuilder" "count" "I" (.int (oN cs.length))) (Bm : Fld Z h0 a2 "java/lang/AbstractStringBuilder" "maybeLatin1" "Z" (.int ml)) (Vb : Arv Z h0 v1 kv .byte (oN (2 * (cs.length + 16))) (u16 cs) (.int 0)) (hn : cs.length ≤ 4) (S_AD : SAD Z) (S_HI : SHI Z) (S_LO : SLO Z) (hcs : ∀ c ∈ cs, ¬ c < 0 ∧ ¬ (65535 : Int32) < c) (hj : m1 < cs.length) (hpre : ∀ j, j < m1 → ¬ ((255 : Int32) < cs.getD j 0)) (hend : (255 : Int32) < (cs.getD m1 0)) (S_FM : SFM Z fm) (r_FM : fm.isRef = true) (g1 : n0 ≤ a1) (E1 : Exa Z h0 a1 "java/lang/String") (F1 : Fld Z h0 a1 "java/lang/String" "value" "[B" .null) (F2 : Fld Z h0 a1 "java/lang/String" "coder" "B" (.int 0)) (n12 : @Ne Nat a1 a2) (n1v : @Ne Nat a1 v1) :
  MF l mN47 jdk_42_method_150_code 5 none ws (Rm 5 2 44 140) Z #[(.ref a1), (.ref a2), .null] h0 (Q_rmTs2U Z a1 a2 cs cs0 v1 kv ml m1 fm h0 n0) := by
 refine MetFree.of_bodySF (plainFor_of_name pn_2) hisR ?_
 intro p e s m args below meth c s₁ Bd hml0 hP hK
 obtain ⟨rfl, hZ, hh⟩ := hP
 have hx := Bd.exec
 have hby := Bd.bytes
 have hml : c.maxLocals = 5 := hml0
 have hown : s.vm.findClass "java/lang/String" = some m.cls := findClass_of_methodNamed Bd.named
 have hnm := (name_of_methodNamed Bd.named Bd.method).1
 have X0 : Stand p l e (Rm 5 2 44 140) s m #[(.ref a1), (.ref a2), .null] below meth c s₁ [] 0 0 := Stand.of_body Bd
 have e0 : s₁.heap = h0 := by rw [← hh, Bd.state]; rfl
 have N0 := Fr.nil n0
 have hn0 : n0 ≤ h0.size := O0.1 ▸ O0.2.1
 have pre0 : ∀ t, SS p e below s₁ m 0 #[vR a1, vR a2, .val .null, .unset, .unset] [] t → SE p e below s₁ m #[(.ref a1), (.ref a2), .null] 5 t := fun t k => castTop (ef_rmTs2U m a1 a2) k
 have lt_a1 : @LT.lt Nat _ a1 h0.size := E1.lt
 have lt_a2 : @LT.lt Nat _ a2 h0.size := Eb.lt
 have lt_v1 : @LT.lt Nat _ v1 h0.size := Vb.lt
 obtain ⟨T101, X101, e101, st101⟩ := initO X0 hx hZ hown (tw hw 16 rfl) (tw hw 17 rfl) (tw hw 18 rfl) e0 (g := (mkF m 1 #[vR a1, vR a2, .val .null, .unset, .unset] [(.ref a1)])) rfl (by rw [hml]; rfl) rfl (hb hby d21_1) (by decide) (W := 0) (wL _) (by decide)
 obtain ⟨cq102, kq102, q102a, q102b, q102c⟩ := isOf hZ e101 Eb
 obtain ⟨_, _, ⟨T102, L102, k102, n102⟩, -, X102, ⟨Lc102, hQ102, l102, y102, z102⟩, st102⟩ := X101.virtualBack hx (y := mN22) (z := mN22) hown (mvT hZ (tw hw 123 rfl)) (mvT hZ (tw hw 124 rfl)) (notFace_of_selects (args := #[]) (mvT hZ (tw hw 126 rfl))) (mvT hZ (tw hw 126 rfl)) (mvT hZ (tw hw 125 rfl)) (by decide) (backOf (W := 0) (rmGValU l Z a0 hw [] a2 cs cs0 v1 kv (cs.length) ml h0 n0 O0 S_CS c_CS Eb Bv Bc Bn Bm Vb) hZ (tw hw 127 rfl) (tw hw 41 rfl) (by decide) (by decide)) q102a q102c (g := (mkF m 5 #[vR a1, vR a2, .val .null, .unset, .unset] [(.ref a2)])) rfl (by rw [hml]; rfl) (Steps.refl _) (argsL := []) (rest := []) (lenOf pd_17 rfl) rfl (wL _) (hb hby d21_5) (fun _ _ => ⟨rfl, e101, (by decide : 0 + 0 ≤ _), (by decide : 0 + 0 ≤ _)⟩)
 dsimp only [Pt.U, Pt.locs, Pt.cells, Pt.slots] at X102 l102 y102 z102 st102 hQ102
 subst l102 y102 z102
 obtain ⟨rfl, N102q, H102⟩ := hQ102
 have N102 := Fr.app N0 N102q
 obtain ⟨cq103, kq103, q103a, q103b, q103c⟩ := isOf hZ H102 Eb
 obtain ⟨_, _, ⟨T103, L103, k103, n103⟩, -, X103, ⟨Lc103, hQ103, l103, y103, z103⟩, st103⟩ := X102.virtualBack hx (y := mN20) (z := mN21) hown (mvT hZ (tw hw 128 rfl)) (mvT hZ (tw hw 109 rfl)) (own_nface (a0 := #[]) (y := mN20) (mvT hZ (tw hw 80 rfl)) rfl) (mvT hZ (tw hw 129 rfl)) (mvT hZ (tw hw 104 rfl)) (by decide) (backOf (W := 0) (rmBLenU l Z a0 hw [] a2 cs cs0 v1 kv (cs.length) ml h0 n0 O0 S_CS c_CS Eb Bv Bc Bn Bm Vb) hZ (tw hw 106 rfl) (tw hw 33 rfl) (by decide) (by decide)) q103a q103c (g := (mkF m 10 #[vR a1, vR a2, .val .null, vR v1, .unset] [(.ref a2)])) rfl (by rw [hml]; rfl) (Steps.refl _) (argsL := []) (rest := []) (lenOf pd_6 rfl) rfl (wL _) (hb hby d21_10) (fun _ _ => ⟨rfl, H102, (by decide : 0 + 0 ≤ _), (by decide : 0 + 0 ≤ _)⟩)
 dsimp only [Pt.U, Pt.locs, Pt.cells, Pt.slots] at X103 l103 y103 z103 st103 hQ103
 subst l103 y103 z103
 obtain ⟨rfl, N103q, H103⟩ := hQ103
 have N103 := Fr.app N102 N103q
 obtain ⟨cq104, kq104, q104a, q104b, q104c⟩ := isOf hZ H103 Eb
 obtain ⟨_, _, ⟨T104, L104, k104, n104⟩, -, X104, ⟨Lc104, hQ104, l104, y104, z104⟩, st104⟩ := X103.virtualBack hx (y := mN19) (z := mN19) hown (mvT hZ (tw hw 130 rfl)) (mvT hZ (tw hw 131 rfl)) (notFace_of_selects (args := #[]) (mvT hZ (tw hw 133 rfl))) (mvT hZ (tw hw 133 rfl)) (mvT hZ (tw hw 132 rfl)) (by decide) (backOf (W := 0) (rmBLatU l Z a0 hw [] a2 cs cs0 v1 kv (cs.length) ml h0 n0 O0 S_CS c_CS Eb Bv Bc Bn Bm Vb) hZ (tw hw 134 rfl) (tw hw 41 rfl) (by decide) (by decide)) q104a q104c (g := (mkF m 16 #[vR a1, vR a2, .val .null, vR v1, vI (oN cs.length)] [(.ref a2)])) rfl (by rw [hml]; rfl) (Steps.refl _) (argsL := []) (rest := []) (lenOf pd_18 rfl) rfl (wL _) (hb hby d21_16) (fun _ _ => ⟨rfl, H103, (by decide : 0 + 0 ≤ _), (by decide : 0 + 0 ≤ _)⟩)
 dsimp only [Pt.U, Pt.locs, Pt.cells, Pt.slots] at X104 l104 y104 z104 st104 hQ104
 subst l104 y104 z104
 obtain ⟨rfl, N104q, H104⟩ := hQ104
 have N104 := Fr.app N103 N104q
 obtain ⟨T105, X105, e105, st105⟩ := getS2 X104 hx hZ hown (host := "") (Or.inl (tw hw 54 rfl)) Via.refl H104 (Sta.ext O0.2 S_CS) (g := (mkF m 41 #[vR a1, vR a2, .val .null, vR v1, vI (oN cs.length)] [])) rfl (hb hby d21_41)
 obtain ⟨T106, X106, e106, st106⟩ := getF X105 hx hZ hown (host := "") (Or.inl (tw hw 241 rfl)) Via.refl e105 Bm (g := (mkF m 48 #[vR a1, vR a2, .val .null, vR v1, vI (oN cs.length)] [(.ref a2)])) rfl rfl (hb hby d21_48)
 have pre108 : ∀ t, SS p e below T106 m 51 #[vR a1, vR a2, .val .null, vR v1, vI (oN cs.length)] [(.int ml)] t → SE p e below s₁ m #[(.ref a1), (.ref a2), .null] 5 t := by
  intro t kt
  refine pre0 _ ?_
  show SS p e below s₁ m 0 #[vR a1, vR a2, .val .null, .unset, .unset] [] _
  refine XS.aloadN X0.here hx rfl (hb hby d21_0) rfl rfl ?_
  show SS p e below s₁ m 1 #[vR a1, vR a2, .val .null, .unset, .unset] [(.ref a1)] _
  refine st101 _ ?_
  refine XS.aloadN X101.here hx rfl (hb hby d21_4) rfl rfl ?_
  show SS p e below T101 m 5 #[vR a1, vR a2, .val .null, .unset, .unset] [(.ref a2)] _
  refine st102.trans ?_
  refine XS.astoreN X102.here hx rfl (hb hby d21_8) rfl rfl (l' := #[vR a1, vR a2, .val .null, vR v1, .unset]) rfl ?_
  refine XS.aloadN X102.here hx rfl (hb hby d21_9) rfl rfl ?_
  show SS p e below T102 m 10 #[vR a1, vR a2, .val .null, vR v1, .unset] [(.ref a2)] _
  refine st103.trans ?_
  refine XS.istore X103.here hx rfl (hb hby d21_13) rfl (l' := #[vR a1, vR a2, .val .null, vR v1, vI (oN cs.length)]) rfl ?_
  refine XS.aloadN X103.here hx rfl (hb hby d21_15) rfl rfl ?_
  show SS p e below T103 m 16 #[vR a1, vR a2, .val .null, vR v1, vI (oN cs.length)] [(.ref a2)] _
  refine st104.trans ?_
  refine XS.ifYes X104.here hx rfl (pc0 := 19) (pc' := 41) rfl (hb hby d21_19) rfl ((if0 _ _).trans (teq (by decide : (0 : Int32) = (0 : Int32))).1) (by decide) (by decide) ?_
  show SS p e below T104 m 41 #[vR a1, vR a2, .val .null, vR v1, vI (oN cs.length)] [] _
  refine st105 _ ?_
  refine XS.ifNo X105.here hx rfl (hb hby d21_44) rfl ((if0 _ _).trans (feq (c_CS : ¬ (cs0 = (0 : Int32)))).1) ?_
  refine XS.aloadN X105.here hx rfl (hb hby d21_47) rfl rfl ?_
  show SS p e below T105 m 48 #[vR a1, vR a2, .val .null, vR v1, vI (oN cs.length)] [(.ref a2)] _
  refine st106 _ ?_
  exact kt
 by_cases hc107 : ml = (0 : Int32)
 ·skip
  obtain ⟨T109, h109, X109, e109, W109, st109⟩ := putFN X106 hx hZ hown (tw hw 26 rfl) Via.refl e106 F2 E1 (Or.inr ⟨(tw hw 22 rfl), rfl, hnm⟩) (tw hw 7 rfl) (ty := .byte) (v' := (.int 1)) (by decide) rfl rfl (g := (mkF m 81 #[vR a1, vR a2, .val .null, vR v1, vI (oN cs.length)] [(.int 1), (.ref a1)])) rfl rfl (hb hby d21_81)
  have K109 := Keep.of_wr W109
  have Fw109 := Fld.same W109 F2
  have N109 := Fr.snoc X109 N104 (by omega : @LE.le Nat _ n0 a1)
  have sz1_K109 := K109.1
  have hr110 : ((oN cs.length) <<< ((1 : Int32) &&& 31)) = (oN (2 * cs.length)) := own_shl1 (by omega)
  have C112 := Vb.keep K109 (ninS (by omega : @Ne Nat v1 a1) (nin0))
  have O113 : Old Z n0 h109 := O0.keep K109 (allS (by omega) (all0))
  obtain ⟨_, _, ⟨T111, L111, k111, n111⟩, -, X111, ⟨Lc111, hQ111, l111, y111, z111⟩, st111⟩ := Jvm.LawKit.callS X109 hx (y := mN16) hown (mvT hZ (tw hw 135 rfl)) (mvT hZ (tw hw 136 rfl)) (mvT hZ (tw hw 137 rfl)) (mvT hZ (tw hw 138 rfl)) (by decide) (backOf (W := 1) (rmCr l Z a0 hw [] v1 (2 * cs.length) (2 * (cs.length + 16)) kv (u16 cs) h109 n0 O113 C112 (u16_len cs) (by omega) (by omega) (by omega)) hZ (tw hw 138 rfl) (tw hw 137 rfl) (by decide) (by decide)) (g := (mkF m 91 #[vR a1, vR a2, .val .null, vR v1, vI (oN cs.length)] [(.int (oN (2 * cs.length))), (.int 0), (.ref v1), (.ref a1)])) rfl (by rw [hml]; rfl) (argsL := [(.ref v1), (.int 0), (.int (oN (2 * cs.length)))]) (rest := [(.ref a1)]) (lenOf pd_19 rfl) rfl (wL _) (hb hby d21_91) (fun _ _ => ⟨rfl, e109, (by decide : 0 + 1 ≤ _), (by decide : 0 + 40 ≤ _)⟩)
  dsimp only [Pt.U, Pt.locs, Pt.cells, Pt.slots] at X111 l111 y111 z111 st111 hQ111
  subst l111 y111 z111
  obtain ⟨t111, kb111, rfl, N111q, K111, gt111, V111⟩ := hQ111
  have lt111 : @LT.lt Nat _ t111 T111.heap.size := V111.lt
  have sz2_K111 := K111.1
  have N111 := Fr.app N109 N111q
  have KD114 : Keep h0 T111.heap [a1] := ((Keep.refl _ _).trans K109 (allS (Or.inl (List.mem_of_getElem? (i := 0) rfl)) (all0))).trans K111 (all0)
  have C115 := E1.keep KD114
  have C116 := Fld.other W109 F1 (Or.inr (slot_ne (Or.inr (tw hw 21 rfl)) (Or.inr (tw hw 22 rfl)) (by decide) (t := (.array .byte)) (t' := .byte) (by decide) (by decide)))
  have C117 := C116.keep K111 nin0
  obtain ⟨T118, h118, X118, e118, W118, st118⟩ := putF X111 hx hZ hown (host := "") (Or.inl (tw hw 25 rfl)) Via.refl rfl C117 C115 (Or.inr ⟨(tw hw 21 rfl), rfl, hnm⟩) (tw hw 7 rfl) (ty := (.array .byte)) (by decide) rfl rfl (g := (mkF m 94 #[vR a1, vR a2, .val .null, vR v1, vI (oN cs.length)] [(.ref t111), (.ref a1)])) rfl rfl (hb hby d21_94)
  have K118 := Keep.of_wr W118
  have Fw118 := Fld.same W118 C117
  have N118 := Fr.snoc X118 N111 (by omega : @LE.le Nat _ n0 a1)
  have sz3_K118 := K118.1
  have KC119 : Keep h0 h109 [a1] := (Keep.refl h0 [a1]).trans K109 (allS (Or.inl (List.mem_of_getElem? (i := 0) rfl)) (all0))
  have KC120 : Keep h0 T111.heap [a1] := KC119.trans K111 (all0)
  have KC121 : Keep h0 h118 [a1] := KC120.trans K118 (allS (Or.inl (List.mem_of_getElem? (i := 0) rfl)) (all0))
  have C122 := C115.keep K118
  have C123 := Fw109.keep K111 nin0
  have C124 := Fld.other W118 C123 (Or.inr (slot_ne (Or.inr (tw hw 22 rfl)) (Or.inr (tw hw 21 rfl)) (by decide) (t := .byte) (t' := (.array .byte)) (by decide) (by decide)))
  have C125 := V111.keep K118 (ninS (by omega : @Ne Nat t111 a1) (nin0))
  obtain ⟨fs, hr, hrun, hended, hW, hsame⟩ := X118.leave (v := none) (fun _ => rfl)
  refine ⟨_, _, pre108 _ ?_, hrun, hended, _, _, rfl, ?_, ⟨_, rfl⟩, hW, hsame.mono (by decide) (by decide)⟩
  ·skip
   show SS p e below T106 m 51 #[vR a1, vR a2, .val .null, vR v1, vI (oN cs.length)] [(.int ml)] _
   refine XS.ifYes X106.here hx rfl (pc0 := 51) (pc' := 79) rfl (hb hby d21_51) rfl ((if0 _ _).trans (teq hc107).1) (by decide) (by decide) ?_
   refine XS.aloadN X106.here hx rfl (hb hby d21_79) rfl rfl ?_
   refine XS.iconst X106.here hx rfl (hb hby d21_80) ?_
   show SS p e below T106 m 81 #[vR a1, vR a2, .val .null, vR v1, vI (oN cs.length)] [(.int 1), (.ref a1)] _
   refine st109 _ ?_
   refine XS.aloadN X109.here hx rfl (hb hby d21_84) rfl rfl ?_
   refine XS.aloadN X109.here hx rfl (hb hby d21_85) rfl rfl ?_
   refine XS.iconst X109.here hx rfl (hb hby d21_86) ?_
   refine XS.iload X109.here hx rfl (hb hby d21_87) rfl ?_
   refine XS.iconst X109.here hx rfl (hb hby d21_89) ?_
   show SS p e below T109 m 90 #[vR a1, vR a2, .val .null, vR v1, vI (oN cs.length)] [(.int 1), (.int (oN cs.length)), (.int 0), (.ref v1), (.ref a1)] _
   refine XS.ishl X109.here hx rfl (hb hby d21_90) rfl ?_
   show SS p e below T109 m 91 #[vR a1, vR a2, .val .null, vR v1, vI (oN cs.length)] [(.int ((oN cs.length) <<< ((1 : Int32) &&& 31))), (.int 0), (.ref v1), (.ref a1)] _
   rw [hr110]
   show SS p e below T109 m 91 #[vR a1, vR a2, .val .null, vR v1, vI (oN cs.length)] [(.int (oN (2 * cs.length))), (.int 0), (.ref v1), (.ref a1)] _
   refine st111 _ ?_
   show SS p e below T111 m 94 #[vR a1, vR a2, .val .null, vR v1, vI (oN cs.length)] [(.ref t111), (.ref a1)] _
   refine st118 _ ?_
   show SS p e below T118 m 97 #[vR a1, vR a2, .val .null, vR v1, vI (oN cs.length)] [] _
   exact X118.returnOut hx Bd.returns (hb hby d21_97) hr
  ·show Q_rmTs2U Z a1 a2 cs cs0 v1 kv ml m1 fm h0 n0 _ T118.heap _
   rw [e118]
   exact ⟨_, _, rfl, N118, KC121, C122, Fw118, C124, (by omega), (by omega), C125⟩
 ·skip
  obtain ⟨_, _, ⟨T126, L126, k126, n126⟩, -, X126, ⟨Lc126, hQ126, l126, y126, z126⟩, st126⟩ := Jvm.LawKit.callS X106 hx (y := mN46) hown (mvT hZ (tw hw 257 rfl)) (mvT hZ (tw hw 258 rfl)) (mvT hZ (tw hw 156 rfl)) (mvT hZ (tw hw 259 rfl)) (by decide) (backOf (W := 1) (rmCmp3B l Z a0 hw [] v1 cs (cs.length + 16) kv m1 fm h0 n0 O0 S_AD S_HI S_LO Vb hn (by omega) (by omega) hcs hj hpre hend S_FM r_FM) hZ (tw hw 259 rfl) (tw hw 156 rfl) (by decide) (by decide)) (g := (mkF m 59 #[vR a1, vR a2, .val .null, vR v1, vI (oN cs.length)] [(.int (oN cs.length)), (.int 0), (.ref v1), (.ref a1)])) rfl (by rw [hml]; rfl) (argsL := [(.ref v1), (.int 0), (.int (oN cs.length))]) (rest := [(.ref a1)]) (lenOf pd_19 rfl) rfl (wL _) (hb hby d21_59) (fun _ _ => ⟨rfl, e106, (by decide : 0 + 2 ≤ _), (by decide : 0 + 44 ≤ _)⟩)
  dsimp only [Pt.U, Pt.locs, Pt.cells, Pt.slots] at X126 l126 y126 z126 st126 hQ126
  subst l126 y126 z126
  obtain ⟨t126, kb126, rfl, N126q, K126, gt126, V126⟩ := hQ126
  have lt126 : @LT.lt Nat _ t126 T126.heap.size := V126.lt
  have sz1_K126 := K126.1
  have N126 := Fr.app N104 N126q
  have C127 := E1.keep K126
  have C128 := F1.keep K126 nin0
  obtain ⟨T129, h129, X129, e129, W129, st129⟩ := putF X126 hx hZ hown (host := "") (Or.inl (tw hw 25 rfl)) Via.refl rfl C128 C127 (Or.inr ⟨(tw hw 21 rfl), rfl, hnm⟩) (tw hw 7 rfl) (ty := (.array .byte)) (by decide) rfl rfl (g := (mkF m 62 #[vR a1, vR a2, .val .null, vR v1, vI (oN cs.length)] [(.ref t126), (.ref a1)])) rfl rfl (hb hby d21_62)
  have K129 := Keep.of_wr W129
  have Fw129 := Fld.same W129 C128
  have N129 := Fr.snoc X129 N126 (by omega : @LE.le Nat _ n0 a1)
  have sz2_K129 := K129.1
  obtain ⟨T130, X130, e130, st130⟩ := getF X129 hx hZ hown (host := "") (Or.inl (tw hw 25 rfl)) Via.refl e129 Fw129 (g := (mkF m 67 #[vR a1, vR a2, .val .null, vR v1, vI (oN cs.length)] [(.ref a1), (.ref a1)])) rfl rfl (hb hby d21_67)
  have C132 := V126.keep K129 (ninS (by omega : @Ne Nat t126 a1) (nin0))
  have O133 : Old Z n0 T126.heap := O0.keep K126 all0
  have O134 : Old Z n0 h129 := O133.keep K129 (allS (by omega) (all0))
  obtain ⟨_, _, ⟨T131, L131, k131, n131⟩, -, X131, ⟨Lc131, hQ131, l131, y131, z131⟩, st131⟩ := Jvm.LawKit.callS X130 hx (y := mN7) hown (mvT hZ (tw hw 161 rfl)) (mvT hZ (tw hw 162 rfl)) (mvT hZ (tw hw 156 rfl)) (mvT hZ (tw hw 163 rfl)) (by decide) (backOf (W := 1) (rmCdrLenU l Z a0 hw [] t126 cs kb126 (u16 cs) h129 n0 O134 C132 (by omega) hn) hZ (tw hw 163 rfl) (tw hw 156 rfl) (by decide) (by decide)) (g := (mkF m 72 #[vR a1, vR a2, .val .null, vR v1, vI (oN cs.length)] [(.int (oN cs.length)), (.ref t126), (.ref a1)])) rfl (by rw [hml]; rfl) (argsL := [(.ref t126), (.int (oN cs.length))]) (rest := [(.ref a1)]) (lenOf pd_25 rfl) rfl (wL _) (hb hby d21_72) (fun _ _ => ⟨rfl, e130, (by decide : 2 + 0 ≤ _), (by decide : 44 + 0 ≤ _)⟩)
  dsimp only [Pt.U, Pt.locs, Pt.cells, Pt.slots] at X131 l131 y131 z131 st131 hQ131
  subst l131 y131 z131
  obtain ⟨rfl, N131q, H131⟩ := hQ131
  have N131 := Fr.app N129 N131q
  have C135 := C127.keep K129
  have C136 := F2.keep K126 nin0
  have C137 := Fld.other W129 C136 (Or.inr (slot_ne (Or.inr (tw hw 22 rfl)) (Or.inr (tw hw 21 rfl)) (by decide) (t := .byte) (t' := (.array .byte)) (by decide) (by decide)))
  obtain ⟨T138, h138, X138, e138, W138, st138⟩ := putFN X131 hx hZ hown (tw hw 26 rfl) Via.refl H131 C137 C135 (Or.inr ⟨(tw hw 22 rfl), rfl, hnm⟩) (tw hw 7 rfl) (ty := .byte) (v' := (.int 1)) (by decide) rfl rfl (g := (mkF m 75 #[vR a1, vR a2, .val .null, vR v1, vI (oN cs.length)] [(.int 1), (.ref a1)])) rfl rfl (hb hby d21_75)
  have K138 := Keep.of_wr W138
  have Fw138 := Fld.same W138 C137
  have N138 := Fr.snoc X138 N131 (by omega : @LE.le Nat _ n0 a1)
  have sz3_K138 := K138.1
  have KC139 : Keep h0 T126.heap [a1] := (Keep.refl h0 [a1]).trans K126 (all0)
  have KC140 : Keep h0 h129 [a1] := KC139.trans K129 (allS (Or.inl (List.mem_of_getElem? (i := 0) rfl)) (all0))
  have KC141 : Keep h0 h138 [a1] := KC140.trans K138 (allS (Or.inl (List.mem_of_getElem? (i := 0) rfl)) (all0))
  have C142 := C135.keep K138
  have C143 := Fld.other W138 Fw129 (Or.inr (slot_ne (Or.inr (tw hw 21 rfl)) (Or.inr (tw hw 22 rfl)) (by decide) (t := (.array .byte)) (t' := .byte) (by decide) (by decide)))
  have C144 := C132.keep K138 (ninS (by omega : @Ne Nat t126 a1) (nin0))
  obtain ⟨fs, hr, hrun, hended, hW, hsame⟩ := X138.leave (v := none) (fun _ => rfl)
  refine ⟨_, _, pre108 _ ?_, hrun, hended, _, _, rfl, ?_, ⟨_, rfl⟩, hW, hsame.mono (by decide) (by decide)⟩
  ·skip
   show SS p e below T106 m 51 #[vR a1, vR a2, .val .null, vR v1, vI (oN cs.length)] [(.int ml)] _
   refine XS.ifNo X106.here hx rfl (hb hby d21_51) rfl ((if0 _ _).trans (feq hc107).1) ?_
   refine XS.aloadN X106.here hx rfl (hb hby d21_54) rfl rfl ?_
   refine XS.aloadN X106.here hx rfl (hb hby d21_55) rfl rfl ?_
   refine XS.iconst X106.here hx rfl (hb hby d21_56) ?_
   refine XS.iload X106.here hx rfl (hb hby d21_57) rfl ?_
   show SS p e below T106 m 59 #[vR a1, vR a2, .val .null, vR v1, vI (oN cs.length)] [(.int (oN cs.length)), (.int 0), (.ref v1), (.ref a1)] _
   refine st126 _ ?_
   show SS p e below T126 m 62 #[vR a1, vR a2, .val .null, vR v1, vI (oN cs.length)] [(.ref t126), (.ref a1)] _
   refine st129 _ ?_
   refine XS.aloadN X129.here hx rfl (hb hby d21_65) rfl rfl ?_
   refine XS.aloadN X129.here hx rfl (hb hby d21_66) rfl rfl ?_
   show SS p e below T129 m 67 #[vR a1, vR a2, .val .null, vR v1, vI (oN cs.length)] [(.ref a1), (.ref a1)] _
   refine st130 _ ?_
   refine XS.iload X130.here hx rfl (hb hby d21_70) rfl ?_
   show SS p e below T130 m 72 #[vR a1, vR a2, .val .null, vR v1, vI (oN cs.length)] [(.int (oN cs.length)), (.ref t126), (.ref a1)] _
   refine st131 _ ?_
   show SS p e below T131 m 75 #[vR a1, vR a2, .val .null, vR v1, vI (oN cs.length)] [(.int 1), (.ref a1)] _
   refine st138 _ ?_
   show SS p e below T138 m 78 #[vR a1, vR a2, .val .null, vR v1, vI (oN cs.length)] [] _
   exact X138.returnOut hx Bd.returns (hb hby d21_78) hr
  ·show Q_rmTs2U Z a1 a2 cs cs0 v1 kv ml m1 fm h0 n0 _ T138.heap _
   rw [e138]
   exact ⟨_, _, rfl, N138, KC141, C142, C143, Fw138, (by omega), (by omega), C144⟩
theorem ef_rmTs1U (m : MethodId) (y0 : Addr) (y1 : Addr) : entryFrame m #[(.ref y0), (.ref y1)] 2 = (mkF m 0 #[vR y0, vR y1] []) := by first | (simp [entryFrame, mkF, argsToLocals, Value.category]; done) | rfl
def Q_rmTs1U (Z : State) (a1 : Addr) (a2 : Addr) (cs : List Int32) (cs0 : Int32) (v1 : Addr) (kv : ClassId) (ml : Int32) (m1 : Nat) (fm : Value) (h0 : Heap) (n0 : Nat) (v : Option Value) (h : Heap) (L : List Loc) : Prop := ∃ (t : Addr) (kb : ClassId), v = none ∧ Fr n0 L ∧ Keep h0 h [a1] ∧ Exa Z h a1 "java/lang/String" ∧ Fld Z h a1 "java/lang/String" "value" "[B" (.ref t) ∧ Fld Z h a1 "java/lang/String" "coder" "B" (.int 1) ∧ h0.size ≤ t ∧ @Ne Nat t a1 ∧ Arv Z h t kb .byte (oN (2 * cs.length)) (u16 cs) (.int 0)
theorem rmTs1U (l : Launch) (Z : State) (a0 : Array Value) (hw : HW a0 Z) (ws : List Jvm.Cond) (a1 : Addr) (a2 : Addr) (cs : List Int32) (cs0 : Int32) (v1 : Addr) (kv : ClassId) (ml : Int32) (m1 : Nat) (fm : Value) (h0 : Heap) (n0 : Nat) (O0 : Old Z n0 h0) (S_CS : SCS Z cs0) (c_CS : ¬ (cs0 = (0 : Int32))) (Eb : Exa Z h0 a2 "java/lang/StringBuilder") (Bv : Fld Z h0 a2 "java/lang/AbstractStringBuilder" "value" "[B" (.ref v1)) (Bc : Fld Z h0 a2 "java/lang/AbstractStringBuilder" "coder" "B" (.int 1)) (Bn : Fld Z h0 a2 "java/lang/AbstractStringBuilder" "count" "I" (.int (oN cs.length))) (Bm : Fld Z h0 a2 "java/lang/AbstractStringBuilder" "maybeLatin1" "Z" (.int ml)) (Vb : Arv Z h0 v1 kv .byte (oN (2 * (cs.length + 16))) (u16 cs) (.int 0)) (hn : cs.length ≤ 4) (S_AD : SAD Z) (S_HI : SHI Z) (S_LO : SLO Z) (hcs : ∀ c ∈ cs, ¬ c < 0 ∧ ¬ (65535 : Int32) < c) (hj : m1 < cs.length) (hpre : ∀ j, j < m1 → ¬ ((255 : Int32) < cs.getD j 0)) (hend : (255 : Int32) < (cs.getD m1 0)) (S_FM : SFM Z fm) (r_FM : fm.isRef = true) (g1 : n0 ≤ a1) (E1 : Exa Z h0 a1 "java/lang/String") (F1 : Fld Z h0 a1 "java/lang/String" "value" "[B" .null) (F2 : Fld Z h0 a1 "java/lang/String" "coder" "B" (.int 0)) (n12 : @Ne Nat a1 a2) (n1v : @Ne Nat a1 v1) :
  MF l mN48 jdk_42_method_53_code 2 none ws (Rm 6 2 44 160) Z #[(.ref a1), (.ref a2)] h0 (Q_rmTs1U Z a1 a2 cs cs0 v1 kv ml m1 fm h0 n0) := by
 refine MetFree.of_bodySF (plainFor_of_name pn_2) hisR ?_
 intro p e s m args below meth c s₁ Bd hml0 hP hK
 obtain ⟨rfl, hZ, hh⟩ := hP
 have hx := Bd.exec
 have hby := Bd.bytes
 have hml : c.maxLocals = 2 := hml0
 have hown : s.vm.findClass "java/lang/String" = some m.cls := findClass_of_methodNamed Bd.named
 have X0 : Stand p l e (Rm 6 2 44 160) s m #[(.ref a1), (.ref a2)] below meth c s₁ [] 0 0 := Stand.of_body Bd
 have e0 : s₁.heap = h0 := by rw [← hh, Bd.state]; rfl
 have N0 := Fr.nil n0
 have hn0 : n0 ≤ h0.size := O0.1 ▸ O0.2.1
 have pre0 : ∀ t, SS p e below s₁ m 0 #[vR a1, vR a2] [] t → SE p e below s₁ m #[(.ref a1), (.ref a2)] 2 t := fun t k => castTop (ef_rmTs1U m a1 a2) k
 have lt_a1 : @LT.lt Nat _ a1 h0.size := E1.lt
 have lt_a2 : @LT.lt Nat _ a2 h0.size := Eb.lt
 have lt_v1 : @LT.lt Nat _ v1 h0.size := Vb.lt
 obtain ⟨_, _, ⟨T101, L101, k101, n101⟩, -, X101, ⟨Lc101, hQ101, l101, y101, z101⟩, st101⟩ := X0.specialBack hx (y := mN47) rfl hown (mvT hZ (tw hw 120 rfl)) (mvT hZ (tw hw 121 rfl)) (mvT hZ (tw hw 122 rfl)) (by decide) (backOf (W := 0) (rmTs2U l Z a0 hw [] a1 a2 cs cs0 v1 kv ml m1 fm h0 n0 O0 S_CS c_CS Eb Bv Bc Bn Bm Vb hn S_AD S_HI S_LO hcs hj hpre hend S_FM r_FM (by omega : @LE.le Nat _ n0 a1) E1 F1 F2 (by omega) (by omega)) hZ (tw hw 122 rfl) (tw hw 8 rfl) (by decide) (by decide)) (g := (mkF m 3 #[vR a1, vR a2] [.null, (.ref a2), (.ref a1)])) rfl (by rw [hml]; rfl) (Steps.refl _) (a := a1) (argsL := [(.ref a2), .null]) (rest := []) (lenOf pd_16 rfl) rfl (wL _) (hb hby d20_3) (fun _ _ => ⟨rfl, e0, (by decide : 0 + 2 ≤ _), (by decide : 0 + 44 ≤ _)⟩)
 dsimp only [Pt.U, Pt.locs, Pt.cells, Pt.slots] at X101 l101 y101 z101 st101 hQ101
 subst l101 y101 z101
 obtain ⟨t101, kb101, rfl, N101q, K101, E101, Fv101, Fc101, gt101, tx101, V101⟩ := hQ101
 have lt101 : @LT.lt Nat _ t101 T101.heap.size := V101.lt
 have sz1_K101 := K101.1
 have N101 := Fr.app N0 N101q
 have KC102 : Keep h0 T101.heap [a1] := (Keep.refl h0 [a1]).trans K101 (allS (Or.inl (List.mem_of_getElem? (i := 0) rfl)) (all0))
 obtain ⟨fs, hr, hrun, hended, hW, hsame⟩ := X101.leave (v := none) (fun _ => rfl)
 refine ⟨_, _, pre0 _ ?_, hrun, hended, _, _, rfl, ?_, ⟨_, rfl⟩, hW, hsame.mono (by decide) (by decide)⟩
 ·skip
  show SS p e below s₁ m 0 #[vR a1, vR a2] [] _
  refine XS.aloadN X0.here hx rfl (hb hby d20_0) rfl rfl ?_
  refine XS.aloadN X0.here hx rfl (hb hby d20_1) rfl rfl ?_
  refine XS.aconstNull X0.here hx rfl (hb hby d20_2) ?_
  show SS p e below s₁ m 3 #[vR a1, vR a2] [.null, (.ref a2), (.ref a1)] _
  refine st101.trans ?_
  show SS p e below T101 m 6 #[vR a1, vR a2] [] _
  exact X101.returnOut hx Bd.returns (hb hby d20_6) hr
 ·show Q_rmTs1U Z a1 a2 cs cs0 v1 kv ml m1 fm h0 n0 _ T101.heap _
  exact ⟨_, _, rfl, N101, KC102, E101, Fv101, Fc101, (by omega), (by omega), V101⟩
theorem ef_rmTsU (m : MethodId) (y0 : Addr) : entryFrame m #[(.ref y0)] 1 = (mkF m 0 #[vR y0] []) := by first | (simp [entryFrame, mkF, argsToLocals, Value.category]; done) | rfl
def Q_rmTsU (Z : State) (a1 : Addr) (cs : List Int32) (cs0 : Int32) (v1 : Addr) (kv : ClassId) (ml : Int32) (m1 : Nat) (fm : Value) (h0 : Heap) (n0 : Nat) (v : Option Value) (h : Heap) (L : List Loc) : Prop := ∃ (x t : Addr) (kb : ClassId), v = some (.ref x) ∧ Fr n0 L ∧ Keep h0 h [] ∧ h0.size ≤ x ∧ Exa Z h x "java/lang/String" ∧ Fld Z h x "java/lang/String" "value" "[B" (.ref t) ∧ Fld Z h x "java/lang/String" "coder" "B" (.int 1) ∧ h0.size ≤ t ∧ @Ne Nat t x ∧ Arv Z h t kb .byte (oN (2 * cs.length)) (u16 cs) (.int 0)
theorem rmTsU (l : Launch) (Z : State) (a0 : Array Value) (hw : HW a0 Z) (ws : List Jvm.Cond) (a1 : Addr) (cs : List Int32) (cs0 : Int32) (v1 : Addr) (kv : ClassId) (ml : Int32) (m1 : Nat) (fm : Value) (h0 : Heap) (n0 : Nat) (O0 : Old Z n0 h0) (S_CS : SCS Z cs0) (c_CS : ¬ (cs0 = (0 : Int32))) (Eb : Exa Z h0 a1 "java/lang/StringBuilder") (Bv : Fld Z h0 a1 "java/lang/AbstractStringBuilder" "value" "[B" (.ref v1)) (Bc : Fld Z h0 a1 "java/lang/AbstractStringBuilder" "coder" "B" (.int 1)) (Bn : Fld Z h0 a1 "java/lang/AbstractStringBuilder" "count" "I" (.int (oN cs.length))) (Bm : Fld Z h0 a1 "java/lang/AbstractStringBuilder" "maybeLatin1" "Z" (.int ml)) (Vb : Arv Z h0 v1 kv .byte (oN (2 * (cs.length + 16))) (u16 cs) (.int 0)) (hn : cs.length ≤ 4) (S_AD : SAD Z) (S_HI : SHI Z) (S_LO : SLO Z) (hcs : ∀ c ∈ cs, ¬ c < 0 ∧ ¬ (65535 : Int32) < c) (hj : m1 < cs.length) (hpre : ∀ j, j < m1 → ¬ ((255 : Int32) < cs.getD j 0)) (hend : (255 : Int32) < (cs.getD m1 0)) (S_FM : SFM Z fm) (r_FM : fm.isRef = true) :
  MF l mN49 jdk_67_method_42_code 1 (some (.object "java/lang/String")) ws (Rm 7 3 48 180) Z #[(.ref a1)] h0 (Q_rmTsU Z a1 cs cs0 v1 kv ml m1 fm h0 n0) := by
 refine MetFree.of_bodySF (plainFor_of_name pn_6) hisR ?_
 intro p e s m args below meth c s₁ Bd hml0 hP hK
 obtain ⟨rfl, hZ, hh⟩ := hP
 have hx := Bd.exec
 have hby := Bd.bytes
 have hml : c.maxLocals = 1 := hml0
 have hown : s.vm.findClass "java/lang/StringBuilder" = some m.cls := findClass_of_methodNamed Bd.named
 have X0 : Stand p l e (Rm 7 3 48 180) s m #[(.ref a1)] below meth c s₁ [] 0 0 := Stand.of_body Bd
 have e0 : s₁.heap = h0 := by rw [← hh, Bd.state]; rfl
 have N0 := Fr.nil n0
 have hn0 : n0 ≤ h0.size := O0.1 ▸ O0.2.1
 have pre0 : ∀ t, SS p e below s₁ m 0 #[vR a1] [] t → SE p e below s₁ m #[(.ref a1)] 1 t := fun t k => castTop (ef_rmTsU m a1) k
 have lt_a1 : @LT.lt Nat _ a1 h0.size := Eb.lt
 have lt_v1 : @LT.lt Nat _ v1 h0.size := Vb.lt
 obtain ⟨T101, h101, X101, e101, E101, A101, D101, -, st101⟩ := newO X0 hx hZ hown (tw hw 116 rfl) (tw hw 7 rfl) (tw hw 8 rfl) e0 (g := (mkF m 0 #[vR a1] [])) rfl (hb hby d19_0) (by decide) (by decide)
 obtain ⟨b101, g101⟩ : ∃ z, z = h0.size := ⟨_, rfl⟩
 rw [← g101] at A101 D101 st101
 have lt101 : @LT.lt Nat _ b101 h101.size := A101.lt
 have K101 : Keep h0 h101 [] := (Keep.refl _ _).ext E101
 have sz1_K101 := K101.1
 have F101_value : Fld Z h101 b101 "java/lang/String" "value" "[B" .null := D101 (Or.inr (tw hw 21 rfl)) (ty := (.array .byte)) (by decide)
 have F101_coder : Fld Z h101 b101 "java/lang/String" "coder" "B" (.int 0) := D101 (Or.inr (tw hw 22 rfl)) (ty := .byte) (by decide)
 have C103 := Eb.keep K101
 have C104 := Bv.keep K101 nin0
 have C105 := Bc.keep K101 nin0
 have C106 := Bn.keep K101 nin0
 have C107 := Bm.keep K101 nin0
 have C108 := Vb.keep K101 nin0
 have O109 : Old Z n0 h101 := O0.keep K101 all0
 obtain ⟨_, _, ⟨T102, L102, k102, n102⟩, -, X102, ⟨Lc102, hQ102, l102, y102, z102⟩, st102⟩ := X101.specialBack hx (y := mN48) rfl hown (mvT hZ (tw hw 117 rfl)) (mvT hZ (tw hw 118 rfl)) (mvT hZ (tw hw 119 rfl)) (by decide) (backOf (W := 1) (rmTs1U l Z a0 hw [] b101 a1 cs cs0 v1 kv ml m1 fm h101 n0 O109 S_CS c_CS C103 C104 C105 C106 C107 C108 hn S_AD S_HI S_LO hcs hj hpre hend S_FM r_FM (by omega : @LE.le Nat _ n0 b101) A101 F101_value F101_coder (by omega) (by omega)) hZ (tw hw 119 rfl) (tw hw 8 rfl) (by decide) (by decide)) (g := (mkF m 5 #[vR a1] [(.ref a1), (.ref b101), (.ref b101)])) rfl (by rw [hml]; rfl) (Steps.refl _) (a := b101) (argsL := [(.ref a1)]) (rest := [(.ref b101)]) (lenOf pd_15 rfl) rfl (wL _) (hb hby d19_5) (fun _ _ => ⟨rfl, e101, (by decide : 1 + 2 ≤ _), (by decide : 4 + 44 ≤ _)⟩)
 dsimp only [Pt.U, Pt.locs, Pt.cells, Pt.slots] at X102 l102 y102 z102 st102 hQ102
 subst l102 y102 z102
 obtain ⟨t102, kb102, rfl, N102q, K102, E102, Fv102, Fc102, gt102, tx102, V102⟩ := hQ102
 have lt102 : @LT.lt Nat _ t102 T102.heap.size := V102.lt
 have sz2_K102 := K102.1
 have N102 := Fr.app N0 N102q
 have KC110 : Keep h0 h101 [] := (Keep.refl h0 []).trans K101 (all0)
 have KC111 : Keep h0 T102.heap [] := KC110.trans K102 (allS (Or.inr (by omega)) (all0))
 obtain ⟨fs, hr, hrun, hended, hW, hsame⟩ := X102.leave (v := some (.ref b101)) (nvr Bd.returns)
 refine ⟨_, _, pre0 _ ?_, hrun, hended, _, _, rfl, ?_, ⟨_, rfl⟩, hW, hsame.mono (by decide) (by decide)⟩
 ·skip
  show SS p e below s₁ m 0 #[vR a1] [] _
  refine st101 _ ?_
  refine XS.dup X101.here hx rfl (hb hby d19_3) rfl rfl ?_
  refine XS.aloadN X101.here hx rfl (hb hby d19_4) rfl rfl ?_
  show SS p e below T101 m 5 #[vR a1] [(.ref a1), (.ref b101), (.ref b101)] _
  refine st102.trans ?_
  show SS p e below T102 m 8 #[vR a1] [(.ref b101)] _
  exact X102.areturnOut hx rfl Bd.returns rfl (hb hby d19_8) hr
 ·show Q_rmTsU Z a1 cs cs0 v1 kv ml m1 fm h0 n0 _ T102.heap _
  exact ⟨_, _, _, rfl, N102, KC111, (by omega), E102, Fv102, Fc102, (by omega), (by omega), V102⟩
theorem d5_11 : DK cD50 11 (.iload_n 2) 1 := by decide +kernel
theorem d5_12 : DK cD50 12 (.aload_n 1) 1 := by decide +kernel
theorem d5_13 : DK cD50 13 (.invokevirtual 12) 3 := by decide +kernel
theorem d5_16 : DK cD50 16 (.if_icmp .ge 27) 3 := by decide +kernel
theorem d5_19 : DK cD50 19 (.aload_n 1) 1 := by decide +kernel
theorem d5_20 : DK cD50 20 (.iload_n 2) 1 := by decide +kernel
theorem d5_21 : DK cD50 21 (.invokevirtual 16) 3 := by decide +kernel
theorem d5_24 : DK cD50 24 (.invokestatic 20) 3 := by decide +kernel
theorem d5_27 : DK cD50 27 (.ifCond .eq 10) 3 := by decide +kernel
theorem d5_37 : DK cD50 37 (.iinc 2 1) 3 := by decide +kernel
theorem d5_40 : DK cD50 40 (.goto (-29)) 3 := by decide +kernel
theorem tnPrAL {p : Program} {l : Launch} {e : Env} {s : State} {m : MethodId} {args : Array Value} {below : List Frame} {meth : Method} {c : Code} {T0 : State} {locs : List Loc} {Z : State} {a0 : Array Value} {h0 : Heap} {n0 : Nat} (a1 b : Addr) (cs : List Int32) (cs0 : Int32) (v1 : Addr) (kv : ClassId) (nn : Nat) (ml : Int32) (fm : Value) (j : Nat)
  (X0 : Stand p l e (Rm 8 5 92 232) s m args below meth c T0 locs 2 44) (hx : p.tables.exec = Jvm.exec) (hZ : Z.Warmed39 s.vm) (hw : HW a0 Z) (hby : c.code = prog_48_method_2_code) (hml : c.maxLocals = 3) (hown : s.vm.findClass "com/example/tidemark/tidemark/core/ReportLines" = some m.cls) (e0 : T0.heap = h0) (O0 : Old Z n0 h0) (N0 : Fr n0 locs) (S_CS : SCS Z cs0) (c_CS : ¬ (cs0 = (0 : Int32))) (S_FM : SFM Z fm) (r_FM : fm.isRef = true) (Eb : Exa Z h0 b "java/lang/StringBuilder") (Bv : Fld Z h0 b "java/lang/AbstractStringBuilder" "value" "[B" (.ref v1)) (Bc : Fld Z h0 b "java/lang/AbstractStringBuilder" "coder" "B" (.int 0)) (Bn : Fld Z h0 b "java/lang/AbstractStringBuilder" "count" "I" (.int (oN nn))) (Bm : Fld Z h0 b "java/lang/AbstractStringBuilder" "maybeLatin1" "Z" (.int ml)) (Vb : Arv Z h0 v1 kv .byte (oN (nn + 16)) ((lat cs).map Value.int) (.int 0)) (hnn : cs.length = nn) (hM : nn ≤ 4) (hi : j < nn) (hL : ∀ c ∈ cs, ¬ c < 0 ∧ ¬ (255 : Int32) < c) (g1 : n0 ≤ b) (gv : n0 ≤ v1) (nv1 : @Ne Nat v1 b) (hz : isoC (cs.getD j 0) = (0 : Int32)) :
  ∃ (T' : State) (h' : Heap) (L' : List Loc), Stand p l e (Rm 8 5 92 232) s m args below meth c T' L' 2 44 ∧ T'.heap = h' ∧ Fr n0 L' ∧ h' = h0 ∧ ∀ target, SS p e below T' m 11 #[vR a1, vR b, vI (oN (j + 1))] [] target → SS p e below T0 m 11 #[vR a1, vR b, vI (oN j)] [] target := by
 have hn0 : n0 ≤ h0.size := O0.1 ▸ O0.2.1
 have pre0 : ∀ t, SS p e below T0 m 11 #[vR a1, vR b, vI (oN j)] [] t → SS p e below T0 m 11 #[vR a1, vR b, vI (oN j)] [] t := fun t k => k
 have lt_b : @LT.lt Nat _ b h0.size := Eb.lt
 have lt_v1 : @LT.lt Nat _ v1 h0.size := Vb.lt
 obtain ⟨cq101, kq101, q101a, q101b, q101c⟩ := isOf hZ e0 Eb
 obtain ⟨_, _, ⟨T101, L101, k101, n101⟩, -, X101, ⟨Lc101, hQ101, l101, y101, z101⟩, st101⟩ := X0.virtualBack hx (y := mN21) (z := mN21) hown (mvT hZ (tw hw 102 rfl)) (mvT hZ (tw hw 103 rfl)) (notFace_of_selects (args := #[]) (mvT hZ (tw hw 105 rfl))) (mvT hZ (tw hw 105 rfl)) (mvT hZ (tw hw 104 rfl)) (by decide) (backOf (W := 1) (rmBLenL l Z a0 hw [] b cs cs0 v1 kv nn ml h0 n0 O0 S_CS c_CS Eb Bv Bc Bn Bm Vb) hZ (tw hw 106 rfl) (tw hw 33 rfl) (by decide) (by decide)) q101a q101c (g := (mkF m 13 #[vR a1, vR b, vI (oN j)] [(.ref b), (.int (oN j))])) rfl (by rw [hml]; rfl) (Steps.refl _) (argsL := []) (rest := [(.int (oN j))]) (lenOf pd_6 rfl) rfl (wL _) (hb hby d5_13) (fun _ _ => ⟨rfl, e0, (by decide : 2 + 0 ≤ _), (by decide : 44 + 0 ≤ _)⟩)
 dsimp only [Pt.U, Pt.locs, Pt.cells, Pt.slots] at X101 l101 y101 z101 st101 hQ101
 subst l101 y101 z101
 obtain ⟨rfl, N101q, H101⟩ := hQ101
 have N101 := Fr.app N0 N101q
 obtain ⟨cq102, kq102, q102a, q102b, q102c⟩ := isOf hZ H101 Eb
 obtain ⟨_, _, ⟨T102, L102, k102, n102⟩, -, X102, ⟨Lc102, hQ102, l102, y102, z102⟩, st102⟩ := X101.virtualBack hx (y := mN39) (z := mN39) hown (mvT hZ (tw hw 164 rfl)) (mvT hZ (tw hw 165 rfl)) (notFace_of_selects (args := #[]) (mvT hZ (tw hw 167 rfl))) (mvT hZ (tw hw 167 rfl)) (mvT hZ (tw hw 166 rfl)) (by decide) (backOf (W := 0) (rmBcL l Z a0 hw [] b cs cs0 j v1 kv nn ml fm h0 n0 O0 S_CS c_CS S_FM r_FM Eb Bv Bc Bn Bm Vb hnn hM hi hL) hZ (tw hw 168 rfl) (tw hw 33 rfl) (by decide) (by decide)) q102a q102c (g := (mkF m 21 #[vR a1, vR b, vI (oN j)] [(.int (oN j)), (.ref b)])) rfl (by rw [hml]; rfl) (Steps.refl _) (argsL := [(.int (oN j))]) (rest := []) (lenOf pd_26 rfl) rfl (wL _) (hb hby d5_21) (fun _ _ => ⟨rfl, H101, (by decide : 2 + 0 ≤ _), (by decide : 44 + 0 ≤ _)⟩)
 dsimp only [Pt.U, Pt.locs, Pt.cells, Pt.slots] at X102 l102 y102 z102 st102 hQ102
 subst l102 y102 z102
 obtain ⟨rfl, N102q, H102⟩ := hQ102
 have N102 := Fr.app N101 N102q
 obtain ⟨_, _, ⟨T103, L103, k103, n103⟩, -, X103, ⟨Lc103, hQ103, l103, y103, z103⟩, st103⟩ := Jvm.LawKit.callS X102 hx (y := mN36) hown (mvT hZ (tw hw 182 rfl)) (mvT hZ (tw hw 183 rfl)) (mvT hZ (tw hw 184 rfl)) (mvT hZ (tw hw 185 rfl)) (by decide) (backOf (W := 0) (rmIsoC l Z a0 hw [] (cs.getD j 0)  h0 n0 O0 ) hZ (tw hw 185 rfl) (tw hw 184 rfl) (by decide) (by decide)) (g := (mkF m 24 #[vR a1, vR b, vI (oN j)] [(.int (cs.getD j 0))])) rfl (by rw [hml]; rfl) (argsL := [(.int (cs.getD j 0))]) (rest := []) (lenOf pd_28 rfl) rfl (wL _) (hb hby d5_24) (fun _ _ => ⟨rfl, H102, (by decide : 2 + 0 ≤ _), (by decide : 44 + 0 ≤ _)⟩)
 dsimp only [Pt.U, Pt.locs, Pt.cells, Pt.slots] at X103 l103 y103 z103 st103 hQ103
 subst l103 y103 z103
 obtain ⟨rfl, N103q, H103⟩ := hQ103
 have N103 := Fr.app N102 N103q
 refine ⟨T103, h0, _, X103, H103, N103, rfl, fun target kt => pre0 _ ?_⟩
 show SS p e below T0 m 11 #[vR a1, vR b, vI (oN j)] [] _
 refine XS.iloadN X0.here hx rfl (hb hby d5_11) rfl ?_
 refine XS.aloadN X0.here hx rfl (hb hby d5_12) rfl rfl ?_
 show SS p e below T0 m 13 #[vR a1, vR b, vI (oN j)] [(.ref b), (.int (oN j))] _
 refine st101.trans ?_
 refine XS.icmpNo X101.here hx rfl (hb hby d5_16) rfl (tlt ((own_lt (by omega) (by omega)).mpr hi : (oN j) < (oN nn))).2.1 ?_
 refine XS.aloadN X101.here hx rfl (hb hby d5_19) rfl rfl ?_
 refine XS.iloadN X101.here hx rfl (hb hby d5_20) rfl ?_
 show SS p e below T101 m 21 #[vR a1, vR b, vI (oN j)] [(.int (oN j)), (.ref b)] _
 refine st102.trans ?_
 show SS p e below T102 m 24 #[vR a1, vR b, vI (oN j)] [(.int (cs.getD j 0))] _
 refine st103 _ ?_
 refine XS.ifYes X103.here hx rfl (pc0 := 27) (pc' := 37) rfl (hb hby d5_27) rfl ((if0 _ _).trans (teq (hz : (isoC (cs.getD j 0)) = (0 : Int32))).1) (by decide) (by decide) ?_
 refine XS.iinc X103.here hx rfl (hb hby d5_37) rfl (l' := #[vR a1, vR b, vI ((oN j) + (1 : Int32))]) rfl ?_
 refine XS.goto X103.here hx rfl (pc0 := 40) (pc' := 11) rfl (hb hby d5_40) (by decide) (by decide) ?_
 show SS p e below T103 m 11 #[vR a1, vR b, vI ((oN j) + (1 : Int32))] [] _
 rw [own_succ j]
 exact kt
theorem d5_30 : DK cD50 30 (.aload_n 1) 1 := by decide +kernel
theorem d5_31 : DK cD50 31 (.iload_n 2) 1 := by decide +kernel
theorem d5_32 : DK cD50 32 (.bipush 63) 2 := by decide +kernel
theorem d5_34 : DK cD50 34 (.invokevirtual 26) 3 := by decide +kernel
theorem tnPrBL {p : Program} {l : Launch} {e : Env} {s : State} {m : MethodId} {args : Array Value} {below : List Frame} {meth : Method} {c : Code} {T0 : State} {locs : List Loc} {Z : State} {a0 : Array Value} {h0 : Heap} {n0 : Nat} (a1 b : Addr) (cs : List Int32) (cs0 : Int32) (v1 : Addr) (kv : ClassId) (nn : Nat) (ml : Int32) (fm : Value) (j : Nat)
  (X0 : Stand p l e (Rm 8 5 92 232) s m args below meth c T0 locs 2 44) (hx : p.tables.exec = Jvm.exec) (hZ : Z.Warmed39 s.vm) (hw : HW a0 Z) (hby : c.code = prog_48_method_2_code) (hml : c.maxLocals = 3) (hown : s.vm.findClass "com/example/tidemark/tidemark/core/ReportLines" = some m.cls) (e0 : T0.heap = h0) (O0 : Old Z n0 h0) (N0 : Fr n0 locs) (S_CS : SCS Z cs0) (c_CS : ¬ (cs0 = (0 : Int32))) (S_FM : SFM Z fm) (r_FM : fm.isRef = true) (Eb : Exa Z h0 b "java/lang/StringBuilder") (Bv : Fld Z h0 b "java/lang/AbstractStringBuilder" "value" "[B" (.ref v1)) (Bc : Fld Z h0 b "java/lang/AbstractStringBuilder" "coder" "B" (.int 0)) (Bn : Fld Z h0 b "java/lang/AbstractStringBuilder" "count" "I" (.int (oN nn))) (Bm : Fld Z h0 b "java/lang/AbstractStringBuilder" "maybeLatin1" "Z" (.int ml)) (Vb : Arv Z h0 v1 kv .byte (oN (nn + 16)) ((lat cs).map Value.int) (.int 0)) (hnn : cs.length = nn) (hM : nn ≤ 4) (hi : j < nn) (hL : ∀ c ∈ cs, ¬ c < 0 ∧ ¬ (255 : Int32) < c) (g1 : n0 ≤ b) (gv : n0 ≤ v1) (nv1 : @Ne Nat v1 b) (hz : ¬ (isoC (cs.getD j 0) = (0 : Int32))) :
  ∃ (T' : State) (h' : Heap) (L' : List Loc), Stand p l e (Rm 8 5 92 232) s m args below meth c T' L' 2 44 ∧ T'.heap = h' ∧ Fr n0 L' ∧ (∃ ml' : Int32, Keep h0 h' [b, v1] ∧ Exa Z h' b "java/lang/StringBuilder" ∧ Fld Z h' b "java/lang/AbstractStringBuilder" "value" "[B" (.ref v1) ∧ Fld Z h' b "java/lang/AbstractStringBuilder" "coder" "B" (.int 0) ∧ Fld Z h' b "java/lang/AbstractStringBuilder" "count" "I" (.int (oN nn)) ∧ Fld Z h' b "java/lang/AbstractStringBuilder" "maybeLatin1" "Z" (.int ml') ∧ Arv Z h' v1 kv .byte (oN (nn + 16)) ((lat (cs.set j (63 : Int32))).map Value.int) (.int 0)) ∧ ∀ target, SS p e below T' m 11 #[vR a1, vR b, vI (oN (j + 1))] [] target → SS p e below T0 m 11 #[vR a1, vR b, vI (oN j)] [] target := by
 have hn0 : n0 ≤ h0.size := O0.1 ▸ O0.2.1
 have pre0 : ∀ t, SS p e below T0 m 11 #[vR a1, vR b, vI (oN j)] [] t → SS p e below T0 m 11 #[vR a1, vR b, vI (oN j)] [] t := fun t k => k
 have lt_b : @LT.lt Nat _ b h0.size := Eb.lt
 have lt_v1 : @LT.lt Nat _ v1 h0.size := Vb.lt
 obtain ⟨cq101, kq101, q101a, q101b, q101c⟩ := isOf hZ e0 Eb
 obtain ⟨_, _, ⟨T101, L101, k101, n101⟩, -, X101, ⟨Lc101, hQ101, l101, y101, z101⟩, st101⟩ := X0.virtualBack hx (y := mN21) (z := mN21) hown (mvT hZ (tw hw 102 rfl)) (mvT hZ (tw hw 103 rfl)) (notFace_of_selects (args := #[]) (mvT hZ (tw hw 105 rfl))) (mvT hZ (tw hw 105 rfl)) (mvT hZ (tw hw 104 rfl)) (by decide) (backOf (W := 1) (rmBLenL l Z a0 hw [] b cs cs0 v1 kv nn ml h0 n0 O0 S_CS c_CS Eb Bv Bc Bn Bm Vb) hZ (tw hw 106 rfl) (tw hw 33 rfl) (by decide) (by decide)) q101a q101c (g := (mkF m 13 #[vR a1, vR b, vI (oN j)] [(.ref b), (.int (oN j))])) rfl (by rw [hml]; rfl) (Steps.refl _) (argsL := []) (rest := [(.int (oN j))]) (lenOf pd_6 rfl) rfl (wL _) (hb hby d5_13) (fun _ _ => ⟨rfl, e0, (by decide : 2 + 0 ≤ _), (by decide : 44 + 0 ≤ _)⟩)
 dsimp only [Pt.U, Pt.locs, Pt.cells, Pt.slots] at X101 l101 y101 z101 st101 hQ101
 subst l101 y101 z101
 obtain ⟨rfl, N101q, H101⟩ := hQ101
 have N101 := Fr.app N0 N101q
 obtain ⟨cq102, kq102, q102a, q102b, q102c⟩ := isOf hZ H101 Eb
 obtain ⟨_, _, ⟨T102, L102, k102, n102⟩, -, X102, ⟨Lc102, hQ102, l102, y102, z102⟩, st102⟩ := X101.virtualBack hx (y := mN39) (z := mN39) hown (mvT hZ (tw hw 164 rfl)) (mvT hZ (tw hw 165 rfl)) (notFace_of_selects (args := #[]) (mvT hZ (tw hw 167 rfl))) (mvT hZ (tw hw 167 rfl)) (mvT hZ (tw hw 166 rfl)) (by decide) (backOf (W := 0) (rmBcL l Z a0 hw [] b cs cs0 j v1 kv nn ml fm h0 n0 O0 S_CS c_CS S_FM r_FM Eb Bv Bc Bn Bm Vb hnn hM hi hL) hZ (tw hw 168 rfl) (tw hw 33 rfl) (by decide) (by decide)) q102a q102c (g := (mkF m 21 #[vR a1, vR b, vI (oN j)] [(.int (oN j)), (.ref b)])) rfl (by rw [hml]; rfl) (Steps.refl _) (argsL := [(.int (oN j))]) (rest := []) (lenOf pd_26 rfl) rfl (wL _) (hb hby d5_21) (fun _ _ => ⟨rfl, H101, (by decide : 2 + 0 ≤ _), (by decide : 44 + 0 ≤ _)⟩)
 dsimp only [Pt.U, Pt.locs, Pt.cells, Pt.slots] at X102 l102 y102 z102 st102 hQ102
 subst l102 y102 z102
 obtain ⟨rfl, N102q, H102⟩ := hQ102
 have N102 := Fr.app N101 N102q
 obtain ⟨_, _, ⟨T103, L103, k103, n103⟩, -, X103, ⟨Lc103, hQ103, l103, y103, z103⟩, st103⟩ := Jvm.LawKit.callS X102 hx (y := mN36) hown (mvT hZ (tw hw 182 rfl)) (mvT hZ (tw hw 183 rfl)) (mvT hZ (tw hw 184 rfl)) (mvT hZ (tw hw 185 rfl)) (by decide) (backOf (W := 0) (rmIsoC l Z a0 hw [] (cs.getD j 0)  h0 n0 O0 ) hZ (tw hw 185 rfl) (tw hw 184 rfl) (by decide) (by decide)) (g := (mkF m 24 #[vR a1, vR b, vI (oN j)] [(.int (cs.getD j 0))])) rfl (by rw [hml]; rfl) (argsL := [(.int (cs.getD j 0))]) (rest := []) (lenOf pd_28 rfl) rfl (wL _) (hb hby d5_24) (fun _ _ => ⟨rfl, H102, (by decide : 2 + 0 ≤ _), (by decide : 44 + 0 ≤ _)⟩)
 dsimp only [Pt.U, Pt.locs, Pt.cells, Pt.slots] at X103 l103 y103 z103 st103 hQ103
 subst l103 y103 z103
 obtain ⟨rfl, N103q, H103⟩ := hQ103
 have N103 := Fr.app N102 N103q
 obtain ⟨cq104, kq104, q104a, q104b, q104c⟩ := isOf hZ H103 Eb
 obtain ⟨_, _, ⟨T104, L104, k104, n104⟩, -, X104, ⟨Lc104, hQ104, l104, y104, z104⟩, st104⟩ := X103.virtualBack hx (y := mN41) (z := mN41) hown (mvT hZ (tw hw 189 rfl)) (mvT hZ (tw hw 190 rfl)) (notFace_of_selects (args := #[]) (mvT hZ (tw hw 192 rfl))) (mvT hZ (tw hw 192 rfl)) (mvT hZ (tw hw 191 rfl)) (by decide) (backOf (W := 0) (rmBsL l Z a0 hw [] b cs cs0 j v1 kv nn ml fm h0 n0 O0 S_CS c_CS S_FM r_FM Eb Bv Bc Bn Bm Vb hnn hM hi hL (by omega : @LE.le Nat _ n0 b) (by omega : @LE.le Nat _ n0 v1) (by omega)) hZ (tw hw 193 rfl) (tw hw 33 rfl) (by decide) (by decide)) q104a q104c (g := (mkF m 34 #[vR a1, vR b, vI (oN j)] [(.int 63), (.int (oN j)), (.ref b)])) rfl (by rw [hml]; rfl) (Steps.refl _) (argsL := [(.int (oN j)), (.int 63)]) (rest := []) (lenOf pd_30 rfl) rfl (wL _) (hb hby d5_34) (fun _ _ => ⟨rfl, H103, (by decide : 2 + 0 ≤ _), (by decide : 44 + 0 ≤ _)⟩)
 dsimp only [Pt.U, Pt.locs, Pt.cells, Pt.slots] at X104 l104 y104 z104 st104 hQ104
 subst l104 y104 z104
 obtain ⟨ml104, rfl, N104q, K104, Eb104, Bv104, Bc104, Bn104, Bm104, Vb104⟩ := hQ104
 have sz1_K104 := K104.1
 have N104 := Fr.app N103 N104q
 have KC105 : Keep h0 T104.heap [b, v1] := (Keep.refl h0 [b, v1]).trans K104 (allS (Or.inl (List.mem_of_getElem? (i := 0) rfl)) (allS (Or.inl (List.mem_of_getElem? (i := 1) rfl)) (all0)))
 refine ⟨T104, T104.heap, _, X104, rfl, N104, ⟨_, KC105, Eb104, Bv104, Bc104, Bn104, Bm104, Vb104⟩, fun target kt => pre0 _ ?_⟩
 show SS p e below T0 m 11 #[vR a1, vR b, vI (oN j)] [] _
 refine XS.iloadN X0.here hx rfl (hb hby d5_11) rfl ?_
 refine XS.aloadN X0.here hx rfl (hb hby d5_12) rfl rfl ?_
 show SS p e below T0 m 13 #[vR a1, vR b, vI (oN j)] [(.ref b), (.int (oN j))] _
 refine st101.trans ?_
 refine XS.icmpNo X101.here hx rfl (hb hby d5_16) rfl (tlt ((own_lt (by omega) (by omega)).mpr hi : (oN j) < (oN nn))).2.1 ?_
 refine XS.aloadN X101.here hx rfl (hb hby d5_19) rfl rfl ?_
 refine XS.iloadN X101.here hx rfl (hb hby d5_20) rfl ?_
 show SS p e below T101 m 21 #[vR a1, vR b, vI (oN j)] [(.int (oN j)), (.ref b)] _
 refine st102.trans ?_
 show SS p e below T102 m 24 #[vR a1, vR b, vI (oN j)] [(.int (cs.getD j 0))] _
 refine st103 _ ?_
 refine XS.ifNo X103.here hx rfl (hb hby d5_27) rfl ((if0 _ _).trans (feq (hz : ¬ ((isoC (cs.getD j 0)) = (0 : Int32)))).1) ?_
 refine XS.aloadN X103.here hx rfl (hb hby d5_30) rfl rfl ?_
 refine XS.iloadN X103.here hx rfl (hb hby d5_31) rfl ?_
 refine XS.bipush X103.here hx rfl (hb hby d5_32) ?_
 show SS p e below T103 m 34 #[vR a1, vR b, vI (oN j)] [(.int 63), (.int (oN j)), (.ref b)] _
 refine st104.trans ?_
 refine XS.iinc X104.here hx rfl (hb hby d5_37) rfl (l' := #[vR a1, vR b, vI ((oN j) + (1 : Int32))]) rfl ?_
 refine XS.goto X104.here hx rfl (pc0 := 40) (pc' := 11) rfl (hb hby d5_40) (by decide) (by decide) ?_
 show SS p e below T104 m 11 #[vR a1, vR b, vI ((oN j) + (1 : Int32))] [] _
 rw [own_succ j]
 exact kt
theorem lpPrL {p : Program} {l : Launch} {e : Env} {s : State} {m : MethodId} {args : Array Value} {below : List Frame} {meth : Method} {c : Code} {T0 : State} {locs : List Loc} {Z : State} {a0 : Array Value} {h0 : Heap} {n0 : Nat} (a1 b : Addr) (cs : List Int32) (cs0 : Int32) (v1 : Addr) (kv : ClassId) (nn : Nat) (ml : Int32) (fm : Value) (X0 : Stand p l e (Rm 8 5 92 232) s m args below meth c T0 locs 2 44) (hx : p.tables.exec = Jvm.exec) (hZ : Z.Warmed39 s.vm) (hw : HW a0 Z) (hby : c.code = prog_48_method_2_code) (hml : c.maxLocals = 3) (hown : s.vm.findClass "com/example/tidemark/tidemark/core/ReportLines" = some m.cls) (e0 : T0.heap = h0) (O0 : Old Z n0 h0) (N0 : Fr n0 locs) (S_CS : SCS Z cs0) (c_CS : ¬ (cs0 = (0 : Int32))) (S_FM : SFM Z fm) (r_FM : fm.isRef = true) (Eb : Exa Z h0 b "java/lang/StringBuilder") (Bv : Fld Z h0 b "java/lang/AbstractStringBuilder" "value" "[B" (.ref v1)) (Bc : Fld Z h0 b "java/lang/AbstractStringBuilder" "coder" "B" (.int 0)) (Bn : Fld Z h0 b "java/lang/AbstractStringBuilder" "count" "I" (.int (oN nn))) (Bm : Fld Z h0 b "java/lang/AbstractStringBuilder" "maybeLatin1" "Z" (.int ml)) (Vb : Arv Z h0 v1 kv .byte (oN (nn + 16)) ((lat cs).map Value.int) (.int 0)) (hnn : cs.length = nn) (hM : nn ≤ 4) (hL : ∀ c ∈ cs, ¬ c < 0 ∧ ¬ (255 : Int32) < c) (g1 : n0 ≤ b) (gv : n0 ≤ v1) (nv1 : @Ne Nat v1 b) :
  ∀ j, j ≤ nn → ∃ (T' : State) (h' : Heap) (L' : List Loc) (ml' : Int32), Stand p l e (Rm 8 5 92 232) s m args below meth c T' L' 2 44 ∧ T'.heap = h' ∧ Fr n0 L' ∧ Keep h0 h' [b, v1] ∧ Exa Z h' b "java/lang/StringBuilder" ∧ Fld Z h' b "java/lang/AbstractStringBuilder" "value" "[B" (.ref v1) ∧ Fld Z h' b "java/lang/AbstractStringBuilder" "coder" "B" (.int 0) ∧ Fld Z h' b "java/lang/AbstractStringBuilder" "count" "I" (.int (oN nn)) ∧ Fld Z h' b "java/lang/AbstractStringBuilder" "maybeLatin1" "Z" (.int ml') ∧ Arv Z h' v1 kv .byte (oN (nn + 16)) ((lat (prt cs j)).map Value.int) (.int 0) ∧ ∀ target, SS p e below T' m 11 #[vR a1, vR b, vI (oN j)] [] target → SS p e below T0 m 11 #[vR a1, vR b, vI (oN 0)] [] target := by
 intro j
 induction j with
 | zero => exact fun _ => ⟨T0, h0, locs, ml, X0, e0, N0, Keep.refl _ _, Eb, Bv, Bc, Bn, Bm, by rw [prt_zero]; exact Vb, fun _ k => k⟩
 | succ j ih =>
  intro hj
  obtain ⟨T, h, L, ml1, X, e1, N, K, Eb1, Bv1, Bc1, Bn1, Bm1, Vb1, st⟩ := ih (by omega)
  have O1 := O0.keep K (allS g1 (allS gv all0))
  have hl1 : (prt cs j).length = nn := by rw [prt_len, hnn]
  have hg : (prt cs j).getD j 0 = cs.getD j 0 := prt_get cs j
  have hnn' := ((prt_mem (P := fun c => ¬ c < 0 ∧ ¬ (255 : Int32) < c) hL (fun c r => own_erngL r) j) _ (own_getmem (by rw [hl1]; omega : j < (prt cs j).length))).1
  by_cases hz : isoC ((prt cs j).getD j 0) = 0
  ·obtain ⟨T2, h2, L2, X2, e2, N2, eh, st2⟩ := tnPrAL a1 b (prt cs j) cs0 v1 kv nn ml1 fm j X hx hZ hw hby hml hown e1 O1 N S_CS c_CS S_FM r_FM Eb1 Bv1 Bc1 Bn1 Bm1 Vb1 hl1 hM (by omega) (prt_mem (P := fun c => ¬ c < 0 ∧ ¬ (255 : Int32) < c) hL (fun c r => own_erngL r) j) g1 gv nv1 hz
   subst eh
   have e : prt cs (j + 1) = prt cs j := by rw [← prt_set cs (by omega), ← hg, own_iso hnn', if_pos hz, own_setself _ (by rw [hl1]; omega)]
   exact ⟨T2, _, L2, ml1, X2, e2, N2, K, Eb1, Bv1, Bc1, Bn1, Bm1, by rw [e]; exact Vb1, fun t k => st _ (st2 _ k)⟩
  ·obtain ⟨T2, h2, L2, X2, e2, N2, ⟨ml2, K2, Eb2, Bv2, Bc2, Bn2, Bm2, Vb2⟩, st2⟩ := tnPrBL a1 b (prt cs j) cs0 v1 kv nn ml1 fm j X hx hZ hw hby hml hown e1 O1 N S_CS c_CS S_FM r_FM Eb1 Bv1 Bc1 Bn1 Bm1 Vb1 hl1 hM (by omega) (prt_mem (P := fun c => ¬ c < 0 ∧ ¬ (255 : Int32) < c) hL (fun c r => own_erngL r) j) g1 gv nv1 hz
   have e : prt cs (j + 1) = (prt cs j).set j (63 : Int32) := by rw [← prt_set cs (by omega), ← hg, own_iso hnn', if_neg hz]
   exact ⟨T2, h2, L2, ml2, X2, e2, N2, K.trans K2 (allS (Or.inl (List.mem_of_getElem? (i := 0) rfl)) (allS (Or.inl (List.mem_of_getElem? (i := 1) rfl)) all0)), Eb2, Bv2, Bc2, Bn2, Bm2, by rw [e]; exact Vb2, fun t k => st _ (st2 _ k)⟩
theorem tnPrAU {p : Program} {l : Launch} {e : Env} {s : State} {m : MethodId} {args : Array Value} {below : List Frame} {meth : Method} {c : Code} {T0 : State} {locs : List Loc} {Z : State} {a0 : Array Value} {h0 : Heap} {n0 : Nat} (a1 b : Addr) (cs : List Int32) (cs0 : Int32) (v1 : Addr) (kv : ClassId) (nn : Nat) (ml : Int32) (fm : Value) (j : Nat)
  (X0 : Stand p l e (Rm 8 5 92 232) s m args below meth c T0 locs 2 44) (hx : p.tables.exec = Jvm.exec) (hZ : Z.Warmed39 s.vm) (hw : HW a0 Z) (hby : c.code = prog_48_method_2_code) (hml : c.maxLocals = 3) (hown : s.vm.findClass "com/example/tidemark/tidemark/core/ReportLines" = some m.cls) (e0 : T0.heap = h0) (O0 : Old Z n0 h0) (N0 : Fr n0 locs) (S_CS : SCS Z cs0) (c_CS : ¬ (cs0 = (0 : Int32))) (S_FM : SFM Z fm) (r_FM : fm.isRef = true) (Eb : Exa Z h0 b "java/lang/StringBuilder") (Bv : Fld Z h0 b "java/lang/AbstractStringBuilder" "value" "[B" (.ref v1)) (Bc : Fld Z h0 b "java/lang/AbstractStringBuilder" "coder" "B" (.int 1)) (Bn : Fld Z h0 b "java/lang/AbstractStringBuilder" "count" "I" (.int (oN nn))) (Bm : Fld Z h0 b "java/lang/AbstractStringBuilder" "maybeLatin1" "Z" (.int ml)) (Vb : Arv Z h0 v1 kv .byte (oN (2 * (nn + 16))) (u16 cs) (.int 0)) (hnn : cs.length = nn) (hM : nn ≤ 4) (hi : j < nn) (hcs : ∀ c ∈ cs, ¬ c < 0 ∧ ¬ (65535 : Int32) < c) (S_AD : SAD Z) (S_HI : SHI Z) (S_LO : SLO Z) (g1 : n0 ≤ b) (gv : n0 ≤ v1) (nv1 : @Ne Nat v1 b) (hz : isoC (cs.getD j 0) = (0 : Int32)) :
  ∃ (T' : State) (h' : Heap) (L' : List Loc), Stand p l e (Rm 8 5 92 232) s m args below meth c T' L' 2 44 ∧ T'.heap = h' ∧ Fr n0 L' ∧ h' = h0 ∧ ∀ target, SS p e below T' m 11 #[vR a1, vR b, vI (oN (j + 1))] [] target → SS p e below T0 m 11 #[vR a1, vR b, vI (oN j)] [] target := by
 have hn0 : n0 ≤ h0.size := O0.1 ▸ O0.2.1
 have pre0 : ∀ t, SS p e below T0 m 11 #[vR a1, vR b, vI (oN j)] [] t → SS p e below T0 m 11 #[vR a1, vR b, vI (oN j)] [] t := fun t k => k
 have lt_b : @LT.lt Nat _ b h0.size := Eb.lt
 have lt_v1 : @LT.lt Nat _ v1 h0.size := Vb.lt
 obtain ⟨cq101, kq101, q101a, q101b, q101c⟩ := isOf hZ e0 Eb
 obtain ⟨_, _, ⟨T101, L101, k101, n101⟩, -, X101, ⟨Lc101, hQ101, l101, y101, z101⟩, st101⟩ := X0.virtualBack hx (y := mN21) (z := mN21) hown (mvT hZ (tw hw 102 rfl)) (mvT hZ (tw hw 103 rfl)) (notFace_of_selects (args := #[]) (mvT hZ (tw hw 105 rfl))) (mvT hZ (tw hw 105 rfl)) (mvT hZ (tw hw 104 rfl)) (by decide) (backOf (W := 1) (rmBLenU l Z a0 hw [] b cs cs0 v1 kv nn ml h0 n0 O0 S_CS c_CS Eb Bv Bc Bn Bm Vb) hZ (tw hw 106 rfl) (tw hw 33 rfl) (by decide) (by decide)) q101a q101c (g := (mkF m 13 #[vR a1, vR b, vI (oN j)] [(.ref b), (.int (oN j))])) rfl (by rw [hml]; rfl) (Steps.refl _) (argsL := []) (rest := [(.int (oN j))]) (lenOf pd_6 rfl) rfl (wL _) (hb hby d5_13) (fun _ _ => ⟨rfl, e0, (by decide : 2 + 0 ≤ _), (by decide : 44 + 0 ≤ _)⟩)
 dsimp only [Pt.U, Pt.locs, Pt.cells, Pt.slots] at X101 l101 y101 z101 st101 hQ101
 subst l101 y101 z101
 obtain ⟨rfl, N101q, H101⟩ := hQ101
 have N101 := Fr.app N0 N101q
 obtain ⟨cq102, kq102, q102a, q102b, q102c⟩ := isOf hZ H101 Eb
 obtain ⟨_, _, ⟨T102, L102, k102, n102⟩, -, X102, ⟨Lc102, hQ102, l102, y102, z102⟩, st102⟩ := X101.virtualBack hx (y := mN39) (z := mN39) hown (mvT hZ (tw hw 164 rfl)) (mvT hZ (tw hw 165 rfl)) (notFace_of_selects (args := #[]) (mvT hZ (tw hw 167 rfl))) (mvT hZ (tw hw 167 rfl)) (mvT hZ (tw hw 166 rfl)) (by decide) (backOf (W := 0) (rmBcU l Z a0 hw [] b cs cs0 j v1 kv nn ml fm h0 n0 O0 S_CS c_CS S_FM r_FM Eb Bv Bc Bn Bm Vb hnn hM hi hcs S_AD S_HI S_LO) hZ (tw hw 168 rfl) (tw hw 33 rfl) (by decide) (by decide)) q102a q102c (g := (mkF m 21 #[vR a1, vR b, vI (oN j)] [(.int (oN j)), (.ref b)])) rfl (by rw [hml]; rfl) (Steps.refl _) (argsL := [(.int (oN j))]) (rest := []) (lenOf pd_26 rfl) rfl (wL _) (hb hby d5_21) (fun _ _ => ⟨rfl, H101, (by decide : 2 + 0 ≤ _), (by decide : 44 + 0 ≤ _)⟩)
 dsimp only [Pt.U, Pt.locs, Pt.cells, Pt.slots] at X102 l102 y102 z102 st102 hQ102
 subst l102 y102 z102
 obtain ⟨rfl, N102q, H102⟩ := hQ102
 have N102 := Fr.app N101 N102q
 obtain ⟨_, _, ⟨T103, L103, k103, n103⟩, -, X103, ⟨Lc103, hQ103, l103, y103, z103⟩, st103⟩ := Jvm.LawKit.callS X102 hx (y := mN36) hown (mvT hZ (tw hw 182 rfl)) (mvT hZ (tw hw 183 rfl)) (mvT hZ (tw hw 184 rfl)) (mvT hZ (tw hw 185 rfl)) (by decide) (backOf (W := 0) (rmIsoC l Z a0 hw [] (cs.getD j 0)  h0 n0 O0 ) hZ (tw hw 185 rfl) (tw hw 184 rfl) (by decide) (by decide)) (g := (mkF m 24 #[vR a1, vR b, vI (oN j)] [(.int (cs.getD j 0))])) rfl (by rw [hml]; rfl) (argsL := [(.int (cs.getD j 0))]) (rest := []) (lenOf pd_28 rfl) rfl (wL _) (hb hby d5_24) (fun _ _ => ⟨rfl, H102, (by decide : 2 + 0 ≤ _), (by decide : 44 + 0 ≤ _)⟩)
 dsimp only [Pt.U, Pt.locs, Pt.cells, Pt.slots] at X103 l103 y103 z103 st103 hQ103
 subst l103 y103 z103
 obtain ⟨rfl, N103q, H103⟩ := hQ103
 have N103 := Fr.app N102 N103q
 refine ⟨T103, h0, _, X103, H103, N103, rfl, fun target kt => pre0 _ ?_⟩
 show SS p e below T0 m 11 #[vR a1, vR b, vI (oN j)] [] _
 refine XS.iloadN X0.here hx rfl (hb hby d5_11) rfl ?_
 refine XS.aloadN X0.here hx rfl (hb hby d5_12) rfl rfl ?_
 show SS p e below T0 m 13 #[vR a1, vR b, vI (oN j)] [(.ref b), (.int (oN j))] _
 refine st101.trans ?_
 refine XS.icmpNo X101.here hx rfl (hb hby d5_16) rfl (tlt ((own_lt (by omega) (by omega)).mpr hi : (oN j) < (oN nn))).2.1 ?_
 refine XS.aloadN X101.here hx rfl (hb hby d5_19) rfl rfl ?_
 refine XS.iloadN X101.here hx rfl (hb hby d5_20) rfl ?_
 show SS p e below T101 m 21 #[vR a1, vR b, vI (oN j)] [(.int (oN j)), (.ref b)] _
 refine st102.trans ?_
 show SS p e below T102 m 24 #[vR a1, vR b, vI (oN j)] [(.int (cs.getD j 0))] _
 refine st103 _ ?_
 refine XS.ifYes X103.here hx rfl (pc0 := 27) (pc' := 37) rfl (hb hby d5_27) rfl ((if0 _ _).trans (teq (hz : (isoC (cs.getD j 0)) = (0 : Int32))).1) (by decide) (by decide) ?_
 refine XS.iinc X103.here hx rfl (hb hby d5_37) rfl (l' := #[vR a1, vR b, vI ((oN j) + (1 : Int32))]) rfl ?_
 refine XS.goto X103.here hx rfl (pc0 := 40) (pc' := 11) rfl (hb hby d5_40) (by decide) (by decide) ?_
 show SS p e below T103 m 11 #[vR a1, vR b, vI ((oN j) + (1 : Int32))] [] _
 rw [own_succ j]
 exact kt
theorem tnPrBU {p : Program} {l : Launch} {e : Env} {s : State} {m : MethodId} {args : Array Value} {below : List Frame} {meth : Method} {c : Code} {T0 : State} {locs : List Loc} {Z : State} {a0 : Array Value} {h0 : Heap} {n0 : Nat} (a1 b : Addr) (cs : List Int32) (cs0 : Int32) (v1 : Addr) (kv : ClassId) (nn : Nat) (ml : Int32) (fm : Value) (j : Nat)
  (X0 : Stand p l e (Rm 8 5 92 232) s m args below meth c T0 locs 2 44) (hx : p.tables.exec = Jvm.exec) (hZ : Z.Warmed39 s.vm) (hw : HW a0 Z) (hby : c.code = prog_48_method_2_code) (hml : c.maxLocals = 3) (hown : s.vm.findClass "com/example/tidemark/tidemark/core/ReportLines" = some m.cls) (e0 : T0.heap = h0) (O0 : Old Z n0 h0) (N0 : Fr n0 locs) (S_CS : SCS Z cs0) (c_CS : ¬ (cs0 = (0 : Int32))) (S_FM : SFM Z fm) (r_FM : fm.isRef = true) (Eb : Exa Z h0 b "java/lang/StringBuilder") (Bv : Fld Z h0 b "java/lang/AbstractStringBuilder" "value" "[B" (.ref v1)) (Bc : Fld Z h0 b "java/lang/AbstractStringBuilder" "coder" "B" (.int 1)) (Bn : Fld Z h0 b "java/lang/AbstractStringBuilder" "count" "I" (.int (oN nn))) (Bm : Fld Z h0 b "java/lang/AbstractStringBuilder" "maybeLatin1" "Z" (.int ml)) (Vb : Arv Z h0 v1 kv .byte (oN (2 * (nn + 16))) (u16 cs) (.int 0)) (hnn : cs.length = nn) (hM : nn ≤ 4) (hi : j < nn) (hcs : ∀ c ∈ cs, ¬ c < 0 ∧ ¬ (65535 : Int32) < c) (S_AD : SAD Z) (S_HI : SHI Z) (S_LO : SLO Z) (g1 : n0 ≤ b) (gv : n0 ≤ v1) (nv1 : @Ne Nat v1 b) (hz : ¬ (isoC (cs.getD j 0) = (0 : Int32))) :
  ∃ (T' : State) (h' : Heap) (L' : List Loc), Stand p l e (Rm 8 5 92 232) s m args below meth c T' L' 2 44 ∧ T'.heap = h' ∧ Fr n0 L' ∧ (∃ ml' : Int32, Keep h0 h' [b, v1] ∧ Exa Z h' b "java/lang/StringBuilder" ∧ Fld Z h' b "java/lang/AbstractStringBuilder" "value" "[B" (.ref v1) ∧ Fld Z h' b "java/lang/AbstractStringBuilder" "coder" "B" (.int 1) ∧ Fld Z h' b "java/lang/AbstractStringBuilder" "count" "I" (.int (oN nn)) ∧ Fld Z h' b "java/lang/AbstractStringBuilder" "maybeLatin1" "Z" (.int ml') ∧ Arv Z h' v1 kv .byte (oN (2 * (nn + 16))) (u16 (cs.set j (63 : Int32))) (.int 0)) ∧ ∀ target, SS p e below T' m 11 #[vR a1, vR b, vI (oN (j + 1))] [] target → SS p e below T0 m 11 #[vR a1, vR b, vI (oN j)] [] target := by
 have hn0 : n0 ≤ h0.size := O0.1 ▸ O0.2.1
 have pre0 : ∀ t, SS p e below T0 m 11 #[vR a1, vR b, vI (oN j)] [] t → SS p e below T0 m 11 #[vR a1, vR b, vI (oN j)] [] t := fun t k => k
 have lt_b : @LT.lt Nat _ b h0.size := Eb.lt
 have lt_v1 : @LT.lt Nat _ v1 h0.size := Vb.lt
 obtain ⟨cq101, kq101, q101a, q101b, q101c⟩ := isOf hZ e0 Eb
 obtain ⟨_, _, ⟨T101, L101, k101, n101⟩, -, X101, ⟨Lc101, hQ101, l101, y101, z101⟩, st101⟩ := X0.virtualBack hx (y := mN21) (z := mN21) hown (mvT hZ (tw hw 102 rfl)) (mvT hZ (tw hw 103 rfl)) (notFace_of_selects (args := #[]) (mvT hZ (tw hw 105 rfl))) (mvT hZ (tw hw 105 rfl)) (mvT hZ (tw hw 104 rfl)) (by decide) (backOf (W := 1) (rmBLenU l Z a0 hw [] b cs cs0 v1 kv nn ml h0 n0 O0 S_CS c_CS Eb Bv Bc Bn Bm Vb) hZ (tw hw 106 rfl) (tw hw 33 rfl) (by decide) (by decide)) q101a q101c (g := (mkF m 13 #[vR a1, vR b, vI (oN j)] [(.ref b), (.int (oN j))])) rfl (by rw [hml]; rfl) (Steps.refl _) (argsL := []) (rest := [(.int (oN j))]) (lenOf pd_6 rfl) rfl (wL _) (hb hby d5_13) (fun _ _ => ⟨rfl, e0, (by decide : 2 + 0 ≤ _), (by decide : 44 + 0 ≤ _)⟩)
 dsimp only [Pt.U, Pt.locs, Pt.cells, Pt.slots] at X101 l101 y101 z101 st101 hQ101
 subst l101 y101 z101
 obtain ⟨rfl, N101q, H101⟩ := hQ101
 have N101 := Fr.app N0 N101q
 obtain ⟨cq102, kq102, q102a, q102b, q102c⟩ := isOf hZ H101 Eb
 obtain ⟨_, _, ⟨T102, L102, k102, n102⟩, -, X102, ⟨Lc102, hQ102, l102, y102, z102⟩, st102⟩ := X101.virtualBack hx (y := mN39) (z := mN39) hown (mvT hZ (tw hw 164 rfl)) (mvT hZ (tw hw 165 rfl)) (notFace_of_selects (args := #[]) (mvT hZ (tw hw 167 rfl))) (mvT hZ (tw hw 167 rfl)) (mvT hZ (tw hw 166 rfl)) (by decide) (backOf (W := 0) (rmBcU l Z a0 hw [] b cs cs0 j v1 kv nn ml fm h0 n0 O0 S_CS c_CS S_FM r_FM Eb Bv Bc Bn Bm Vb hnn hM hi hcs S_AD S_HI S_LO) hZ (tw hw 168 rfl) (tw hw 33 rfl) (by decide) (by decide)) q102a q102c (g := (mkF m 21 #[vR a1, vR b, vI (oN j)] [(.int (oN j)), (.ref b)])) rfl (by rw [hml]; rfl) (Steps.refl _) (argsL := [(.int (oN j))]) (rest := []) (lenOf pd_26 rfl) rfl (wL _) (hb hby d5_21) (fun _ _ => ⟨rfl, H101, (by decide : 2 + 0 ≤ _), (by decide : 44 + 0 ≤ _)⟩)
 dsimp only [Pt.U, Pt.locs, Pt.cells, Pt.slots] at X102 l102 y102 z102 st102 hQ102
 subst l102 y102 z102
 obtain ⟨rfl, N102q, H102⟩ := hQ102
 have N102 := Fr.app N101 N102q
 obtain ⟨_, _, ⟨T103, L103, k103, n103⟩, -, X103, ⟨Lc103, hQ103, l103, y103, z103⟩, st103⟩ := Jvm.LawKit.callS X102 hx (y := mN36) hown (mvT hZ (tw hw 182 rfl)) (mvT hZ (tw hw 183 rfl)) (mvT hZ (tw hw 184 rfl)) (mvT hZ (tw hw 185 rfl)) (by decide) (backOf (W := 0) (rmIsoC l Z a0 hw [] (cs.getD j 0)  h0 n0 O0 ) hZ (tw hw 185 rfl) (tw hw 184 rfl) (by decide) (by decide)) (g := (mkF m 24 #[vR a1, vR b, vI (oN j)] [(.int (cs.getD j 0))])) rfl (by rw [hml]; rfl) (argsL := [(.int (cs.getD j 0))]) (rest := []) (lenOf pd_28 rfl) rfl (wL _) (hb hby d5_24) (fun _ _ => ⟨rfl, H102, (by decide : 2 + 0 ≤ _), (by decide : 44 + 0 ≤ _)⟩)
 dsimp only [Pt.U, Pt.locs, Pt.cells, Pt.slots] at X103 l103 y103 z103 st103 hQ103
 subst l103 y103 z103
 obtain ⟨rfl, N103q, H103⟩ := hQ103
 have N103 := Fr.app N102 N103q
 obtain ⟨cq104, kq104, q104a, q104b, q104c⟩ := isOf hZ H103 Eb
 obtain ⟨_, _, ⟨T104, L104, k104, n104⟩, -, X104, ⟨Lc104, hQ104, l104, y104, z104⟩, st104⟩ := X103.virtualBack hx (y := mN41) (z := mN41) hown (mvT hZ (tw hw 189 rfl)) (mvT hZ (tw hw 190 rfl)) (notFace_of_selects (args := #[]) (mvT hZ (tw hw 192 rfl))) (mvT hZ (tw hw 192 rfl)) (mvT hZ (tw hw 191 rfl)) (by decide) (backOf (W := 0) (rmBsU l Z a0 hw [] b cs cs0 j v1 kv nn ml fm h0 n0 O0 S_CS c_CS S_FM r_FM Eb Bv Bc Bn Bm Vb hnn hM hi hcs S_AD S_HI S_LO (by omega : @LE.le Nat _ n0 b) (by omega : @LE.le Nat _ n0 v1) (by omega)) hZ (tw hw 193 rfl) (tw hw 33 rfl) (by decide) (by decide)) q104a q104c (g := (mkF m 34 #[vR a1, vR b, vI (oN j)] [(.int 63), (.int (oN j)), (.ref b)])) rfl (by rw [hml]; rfl) (Steps.refl _) (argsL := [(.int (oN j)), (.int 63)]) (rest := []) (lenOf pd_30 rfl) rfl (wL _) (hb hby d5_34) (fun _ _ => ⟨rfl, H103, (by decide : 2 + 0 ≤ _), (by decide : 44 + 0 ≤ _)⟩)
 dsimp only [Pt.U, Pt.locs, Pt.cells, Pt.slots] at X104 l104 y104 z104 st104 hQ104
 subst l104 y104 z104
 obtain ⟨ml104, rfl, N104q, K104, Eb104, Bv104, Bc104, Bn104, Bm104, Vb104⟩ := hQ104
 have sz1_K104 := K104.1
 have N104 := Fr.app N103 N104q
 have KC105 : Keep h0 T104.heap [b, v1] := (Keep.refl h0 [b, v1]).trans K104 (allS (Or.inl (List.mem_of_getElem? (i := 0) rfl)) (allS (Or.inl (List.mem_of_getElem? (i := 1) rfl)) (all0)))
 refine ⟨T104, T104.heap, _, X104, rfl, N104, ⟨_, KC105, Eb104, Bv104, Bc104, Bn104, Bm104, Vb104⟩, fun target kt => pre0 _ ?_⟩
 show SS p e below T0 m 11 #[vR a1, vR b, vI (oN j)] [] _
 refine XS.iloadN X0.here hx rfl (hb hby d5_11) rfl ?_
 refine XS.aloadN X0.here hx rfl (hb hby d5_12) rfl rfl ?_
 show SS p e below T0 m 13 #[vR a1, vR b, vI (oN j)] [(.ref b), (.int (oN j))] _
 refine st101.trans ?_
 refine XS.icmpNo X101.here hx rfl (hb hby d5_16) rfl (tlt ((own_lt (by omega) (by omega)).mpr hi : (oN j) < (oN nn))).2.1 ?_
 refine XS.aloadN X101.here hx rfl (hb hby d5_19) rfl rfl ?_
 refine XS.iloadN X101.here hx rfl (hb hby d5_20) rfl ?_
 show SS p e below T101 m 21 #[vR a1, vR b, vI (oN j)] [(.int (oN j)), (.ref b)] _
 refine st102.trans ?_
 show SS p e below T102 m 24 #[vR a1, vR b, vI (oN j)] [(.int (cs.getD j 0))] _
 refine st103 _ ?_
 refine XS.ifNo X103.here hx rfl (hb hby d5_27) rfl ((if0 _ _).trans (feq (hz : ¬ ((isoC (cs.getD j 0)) = (0 : Int32)))).1) ?_
 refine XS.aloadN X103.here hx rfl (hb hby d5_30) rfl rfl ?_
 refine XS.iloadN X103.here hx rfl (hb hby d5_31) rfl ?_
 refine XS.bipush X103.here hx rfl (hb hby d5_32) ?_
 show SS p e below T103 m 34 #[vR a1, vR b, vI (oN j)] [(.int 63), (.int (oN j)), (.ref b)] _
 refine st104.trans ?_
 refine XS.iinc X104.here hx rfl (hb hby d5_37) rfl (l' := #[vR a1, vR b, vI ((oN j) + (1 : Int32))]) rfl ?_
 refine XS.goto X104.here hx rfl (pc0 := 40) (pc' := 11) rfl (hb hby d5_40) (by decide) (by decide) ?_
 show SS p e below T104 m 11 #[vR a1, vR b, vI ((oN j) + (1 : Int32))] [] _
 rw [own_succ j]
 exact kt
theorem lpPrU {p : Program} {l : Launch} {e : Env} {s : State} {m : MethodId} {args : Array Value} {below : List Frame} {meth : Method} {c : Code} {T0 : State} {locs : List Loc} {Z : State} {a0 : Array Value} {h0 : Heap} {n0 : Nat} (a1 b : Addr) (cs : List Int32) (cs0 : Int32) (v1 : Addr) (kv : ClassId) (nn : Nat) (ml : Int32) (fm : Value) (X0 : Stand p l e (Rm 8 5 92 232) s m args below meth c T0 locs 2 44) (hx : p.tables.exec = Jvm.exec) (hZ : Z.Warmed39 s.vm) (hw : HW a0 Z) (hby : c.code = prog_48_method_2_code) (hml : c.maxLocals = 3) (hown : s.vm.findClass "com/example/tidemark/tidemark/core/ReportLines" = some m.cls) (e0 : T0.heap = h0) (O0 : Old Z n0 h0) (N0 : Fr n0 locs) (S_CS : SCS Z cs0) (c_CS : ¬ (cs0 = (0 : Int32))) (S_FM : SFM Z fm) (r_FM : fm.isRef = true) (Eb : Exa Z h0 b "java/lang/StringBuilder") (Bv : Fld Z h0 b "java/lang/AbstractStringBuilder" "value" "[B" (.ref v1)) (Bc : Fld Z h0 b "java/lang/AbstractStringBuilder" "coder" "B" (.int 1)) (Bn : Fld Z h0 b "java/lang/AbstractStringBuilder" "count" "I" (.int (oN nn))) (Bm : Fld Z h0 b "java/lang/AbstractStringBuilder" "maybeLatin1" "Z" (.int ml)) (Vb : Arv Z h0 v1 kv .byte (oN (2 * (nn + 16))) (u16 cs) (.int 0)) (hnn : cs.length = nn) (hM : nn ≤ 4) (hcs : ∀ c ∈ cs, ¬ c < 0 ∧ ¬ (65535 : Int32) < c) (S_AD : SAD Z) (S_HI : SHI Z) (S_LO : SLO Z) (g1 : n0 ≤ b) (gv : n0 ≤ v1) (nv1 : @Ne Nat v1 b) :
  ∀ j, j ≤ nn → ∃ (T' : State) (h' : Heap) (L' : List Loc) (ml' : Int32), Stand p l e (Rm 8 5 92 232) s m args below meth c T' L' 2 44 ∧ T'.heap = h' ∧ Fr n0 L' ∧ Keep h0 h' [b, v1] ∧ Exa Z h' b "java/lang/StringBuilder" ∧ Fld Z h' b "java/lang/AbstractStringBuilder" "value" "[B" (.ref v1) ∧ Fld Z h' b "java/lang/AbstractStringBuilder" "coder" "B" (.int 1) ∧ Fld Z h' b "java/lang/AbstractStringBuilder" "count" "I" (.int (oN nn)) ∧ Fld Z h' b "java/lang/AbstractStringBuilder" "maybeLatin1" "Z" (.int ml') ∧ Arv Z h' v1 kv .byte (oN (2 * (nn + 16))) (u16 (prt cs j)) (.int 0) ∧ ∀ target, SS p e below T' m 11 #[vR a1, vR b, vI (oN j)] [] target → SS p e below T0 m 11 #[vR a1, vR b, vI (oN 0)] [] target := by
 intro j
 induction j with
 | zero => exact fun _ => ⟨T0, h0, locs, ml, X0, e0, N0, Keep.refl _ _, Eb, Bv, Bc, Bn, Bm, by rw [prt_zero]; exact Vb, fun _ k => k⟩
 | succ j ih =>
  intro hj
  obtain ⟨T, h, L, ml1, X, e1, N, K, Eb1, Bv1, Bc1, Bn1, Bm1, Vb1, st⟩ := ih (by omega)
  have O1 := O0.keep K (allS g1 (allS gv all0))
  have hl1 : (prt cs j).length = nn := by rw [prt_len, hnn]
  have hg : (prt cs j).getD j 0 = cs.getD j 0 := prt_get cs j
  have hnn' := ((prt_mem (P := fun c => ¬ c < 0 ∧ ¬ (65535 : Int32) < c) hcs (fun c r => own_erng r) j) _ (own_getmem (by rw [hl1]; omega : j < (prt cs j).length))).1
  by_cases hz : isoC ((prt cs j).getD j 0) = 0
  ·obtain ⟨T2, h2, L2, X2, e2, N2, eh, st2⟩ := tnPrAU a1 b (prt cs j) cs0 v1 kv nn ml1 fm j X hx hZ hw hby hml hown e1 O1 N S_CS c_CS S_FM r_FM Eb1 Bv1 Bc1 Bn1 Bm1 Vb1 hl1 hM (by omega) (prt_mem (P := fun c => ¬ c < 0 ∧ ¬ (65535 : Int32) < c) hcs (fun c r => own_erng r) j) S_AD S_HI S_LO g1 gv nv1 hz
   subst eh
   have e : prt cs (j + 1) = prt cs j := by rw [← prt_set cs (by omega), ← hg, own_iso hnn', if_pos hz, own_setself _ (by rw [hl1]; omega)]
   exact ⟨T2, _, L2, ml1, X2, e2, N2, K, Eb1, Bv1, Bc1, Bn1, Bm1, by rw [e]; exact Vb1, fun t k => st _ (st2 _ k)⟩
  ·obtain ⟨T2, h2, L2, X2, e2, N2, ⟨ml2, K2, Eb2, Bv2, Bc2, Bn2, Bm2, Vb2⟩, st2⟩ := tnPrBU a1 b (prt cs j) cs0 v1 kv nn ml1 fm j X hx hZ hw hby hml hown e1 O1 N S_CS c_CS S_FM r_FM Eb1 Bv1 Bc1 Bn1 Bm1 Vb1 hl1 hM (by omega) (prt_mem (P := fun c => ¬ c < 0 ∧ ¬ (65535 : Int32) < c) hcs (fun c r => own_erng r) j) S_AD S_HI S_LO g1 gv nv1 hz
   have e : prt cs (j + 1) = (prt cs j).set j (63 : Int32) := by rw [← prt_set cs (by omega), ← hg, own_iso hnn', if_neg hz]
   exact ⟨T2, h2, L2, ml2, X2, e2, N2, K.trans K2 (allS (Or.inl (List.mem_of_getElem? (i := 0) rfl)) (allS (Or.inl (List.mem_of_getElem? (i := 1) rfl)) all0)), Eb2, Bv2, Bc2, Bn2, Bm2, by rw [e]; exact Vb2, fun t k => st _ (st2 _ k)⟩
theorem d5_0 : DK cD50 0 (.new 7) 3 := by decide +kernel
theorem d5_3 : DK cD50 3 (.dup) 1 := by decide +kernel
theorem d5_4 : DK cD50 4 (.aload_n 0) 1 := by decide +kernel
theorem d5_5 : DK cD50 5 (.invokespecial 9) 3 := by decide +kernel
theorem d5_8 : DK cD50 8 (.astore_n 1) 1 := by decide +kernel
theorem d5_9 : DK cD50 9 (.iconst 0) 1 := by decide +kernel
theorem d5_10 : DK cD50 10 (.istore_n 2) 1 := by decide +kernel
theorem d5_43 : DK cD50 43 (.aload_n 1) 1 := by decide +kernel
theorem d5_44 : DK cD50 44 (.invokevirtual 30) 3 := by decide +kernel
theorem d5_47 : DK cD50 47 (.areturn) 1 := by decide +kernel
theorem pn_5 : plainName "com/example/tidemark/tidemark/core/ReportLines" = true := by first | (simp [plainName, overriddenIn]; done) | decide +kernel
theorem pd_14 : parseMethodDescriptor "()Ljava/lang/String;" = some ⟨[], some (.object "java/lang/String")⟩ := by decide +kernel
theorem ef_rmPrL (m : MethodId) (y0 : Addr) : entryFrame m #[(.ref y0)] 3 = (mkF m 0 #[vR y0, .unset, .unset] []) := by first | (simp [entryFrame, mkF, argsToLocals, Value.category]; done) | rfl
def Q_rmPrL (Z : State) (a1 : Addr) (cs : List Int32) (cs0 : Int32) (t1 : Addr) (k1 : ClassId) (fm : Value) (h0 : Heap) (n0 : Nat) (v : Option Value) (h : Heap) (L : List Loc) : Prop := ∃ (x t : Addr) (kb : ClassId), v = some (.ref x) ∧ Fr n0 L ∧ Keep h0 h [] ∧ h0.size ≤ x ∧ Exa Z h x "java/lang/String" ∧ Fld Z h x "java/lang/String" "value" "[B" (.ref t) ∧ Fld Z h x "java/lang/String" "coder" "B" (.int 0) ∧ h0.size ≤ t ∧ @Ne Nat t x ∧ Arv Z h t kb .byte (oN (lat (cs.map expC)).length) ((lat (cs.map expC)).map Value.int) (.int 0)
theorem rmPrL (l : Launch) (Z : State) (a0 : Array Value) (hw : HW a0 Z) (ws : List Jvm.Cond) (a1 : Addr) (cs : List Int32) (cs0 : Int32) (t1 : Addr) (k1 : ClassId) (fm : Value) (h0 : Heap) (n0 : Nat) (O0 : Old Z n0 h0) (S_CS : SCS Z cs0) (c_CS : ¬ (cs0 = (0 : Int32))) (E1 : Exa Z h0 a1 "java/lang/String") (Fv1 : Fld Z h0 a1 "java/lang/String" "value" "[B" (.ref t1)) (Fc1 : Fld Z h0 a1 "java/lang/String" "coder" "B" (.int 0)) (V1 : Arv Z h0 t1 k1 .byte (oN (lat cs).length) ((lat cs).map Value.int) (.int 0)) (hn : (lat cs).length ≤ 4) (S_FM : SFM Z fm) (r_FM : fm.isRef = true) (hL : ∀ c ∈ cs, ¬ c < 0 ∧ ¬ (255 : Int32) < c) :
  MF l mN50 prog_48_method_2_code 3 (some (.object "java/lang/String")) ws (Rm 8 5 92 232) Z #[(.ref a1)] h0 (Q_rmPrL Z a1 cs cs0 t1 k1 fm h0 n0) := by
 refine MetFree.of_bodySF (plainFor_of_name pn_5) hisR ?_
 intro p e s m args below meth c s₁ Bd hml0 hP hK
 obtain ⟨rfl, hZ, hh⟩ := hP
 have hx := Bd.exec
 have hby := Bd.bytes
 have hml : c.maxLocals = 3 := hml0
 have hown : s.vm.findClass "com/example/tidemark/tidemark/core/ReportLines" = some m.cls := findClass_of_methodNamed Bd.named
 have X0 : Stand p l e (Rm 8 5 92 232) s m #[(.ref a1)] below meth c s₁ [] 0 0 := Stand.of_body Bd
 have e0 : s₁.heap = h0 := by rw [← hh, Bd.state]; rfl
 have N0 := Fr.nil n0
 have hn0 : n0 ≤ h0.size := O0.1 ▸ O0.2.1
 have pre0 : ∀ t, SS p e below s₁ m 0 #[vR a1, .unset, .unset] [] t → SE p e below s₁ m #[(.ref a1)] 3 t := fun t k => castTop (ef_rmPrL m a1) k
 have lt_a1 : @LT.lt Nat _ a1 h0.size := E1.lt
 have lt_t1 : @LT.lt Nat _ t1 h0.size := V1.lt
 obtain ⟨T101, h101, X101, e101, E101, A101, D101, -, st101⟩ := newO X0 hx hZ hown (tw hw 31 rfl) (tw hw 32 rfl) (tw hw 33 rfl) e0 (g := (mkF m 0 #[vR a1, .unset, .unset] [])) rfl (hb hby d5_0) (by decide) (by decide)
 obtain ⟨b101, g101⟩ : ∃ z, z = h0.size := ⟨_, rfl⟩
 rw [← g101] at A101 D101 st101
 have lt101 : @LT.lt Nat _ b101 h101.size := A101.lt
 have K101 : Keep h0 h101 [] := (Keep.refl _ _).ext E101
 have sz1_K101 := K101.1
 have F101_coder : Fld Z h101 b101 "java/lang/AbstractStringBuilder" "coder" "B" (.int 0) := D101 (Or.inl (tw hw 58 rfl)) (ty := .byte) (by decide)
 have F101_value : Fld Z h101 b101 "java/lang/AbstractStringBuilder" "value" "[B" .null := D101 (Or.inl (tw hw 60 rfl)) (ty := (.array .byte)) (by decide)
 have F101_count : Fld Z h101 b101 "java/lang/AbstractStringBuilder" "count" "I" (.int 0) := D101 (Or.inl (tw hw 76 rfl)) (ty := .int) (by decide)
 have F101_maybeLatin1 : Fld Z h101 b101 "java/lang/AbstractStringBuilder" "maybeLatin1" "Z" (.int 0) := D101 (Or.inl (tw hw 242 rfl)) (ty := .boolean) (by decide)
 have C103 := E1.keep K101
 have C104 := Fv1.keep K101 nin0
 have C105 := Fc1.keep K101 nin0
 have C106 := V1.keep K101 nin0
 have O107 : Old Z n0 h101 := O0.keep K101 all0
 obtain ⟨_, _, ⟨T102, L102, k102, n102⟩, -, X102, ⟨Lc102, hQ102, l102, y102, z102⟩, st102⟩ := X101.specialBack hx (y := mN31) rfl hown (mvT hZ (tw hw 34 rfl)) (mvT hZ (tw hw 35 rfl)) (mvT hZ (tw hw 36 rfl)) (by decide) (backOf (W := 1) (rmSiL l Z a0 hw [] b101 a1 cs cs0 t1 k1 h101 n0 O107 S_CS c_CS C103 C104 C105 C106 hn (by omega : @LE.le Nat _ n0 b101) (by omega) (by omega) A101 F101_value F101_coder F101_count F101_maybeLatin1) hZ (tw hw 36 rfl) (tw hw 33 rfl) (by decide) (by decide)) (g := (mkF m 5 #[vR a1, .unset, .unset] [(.ref a1), (.ref b101), (.ref b101)])) rfl (by rw [hml]; rfl) (Steps.refl _) (a := b101) (argsL := [(.ref a1)]) (rest := [(.ref b101)]) (lenOf pd_5 rfl) rfl (wL _) (hb hby d5_5) (fun _ _ => ⟨rfl, e101, (by decide : 1 + 1 ≤ _), (by decide : 4 + 40 ≤ _)⟩)
 dsimp only [Pt.U, Pt.locs, Pt.cells, Pt.slots] at X102 l102 y102 z102 st102 hQ102
 subst l102 y102 z102
 obtain ⟨v102, kv102, rfl, N102q, K102, gv102, Eb102, Bv102, Bc102, Bn102, Bm102, Vb102⟩ := hQ102
 have ltv102 : @LT.lt Nat _ v102 T102.heap.size := Vb102.lt
 have sz2_K102 := K102.1
 have N102 := Fr.app N0 N102q
 have pre108 : ∀ t, SS p e below T102 m 11 #[vR a1, vR b101, vI 0] [] t → SE p e below s₁ m #[(.ref a1)] 3 t := by
  intro t kt
  refine pre0 _ ?_
  show SS p e below s₁ m 0 #[vR a1, .unset, .unset] [] _
  refine st101 _ ?_
  refine XS.dup X101.here hx rfl (hb hby d5_3) rfl rfl ?_
  refine XS.aloadN X101.here hx rfl (hb hby d5_4) rfl rfl ?_
  show SS p e below T101 m 5 #[vR a1, .unset, .unset] [(.ref a1), (.ref b101), (.ref b101)] _
  refine st102.trans ?_
  refine XS.astoreN X102.here hx rfl (hb hby d5_8) rfl rfl (l' := #[vR a1, vR b101, .unset]) rfl ?_
  refine XS.iconst X102.here hx rfl (hb hby d5_9) ?_
  refine XS.istoreN X102.here hx rfl (hb hby d5_10) rfl (l' := #[vR a1, vR b101, vI 0]) rfl ?_
  exact kt
 have O110 : Old Z n0 T102.heap := O107.keep K102 (allS (by omega) (all0))
 obtain ⟨T109, h109, L109, ml109, X109, e109, N109, K109, Eb109, Bv109, Bc109, Bn109, Bm109, Vb109, st109⟩ := lpPrL a1 b101 cs cs0 v102 kv102 ((lat cs).length) (0 : Int32) fm X102 hx hZ hw hby hml hown rfl O110 N102 S_CS c_CS S_FM r_FM Eb102 Bv102 Bc102 Bn102 Bm102 Vb102 (lat_len cs).symm hn hL (by omega : @LE.le Nat _ n0 b101) (by omega : @LE.le Nat _ n0 v102) (by omega) ((lat cs).length) (Nat.le_refl _)
 have hfull : prt cs ((lat cs).length) = cs.map expC := by rw [lat_len]; exact prt_full cs
 rw [hfull] at Vb109
 have hlen : (lat (cs.map expC)).length = (lat cs).length := by simp
 have sz3_K109 := K109.1
 have O112 : Old Z n0 h109 := O110.keep K109 (allS (by omega) (allS (by omega) (all0)))
 obtain ⟨cq111, kq111, q111a, q111b, q111c⟩ := isOf hZ e109 Eb109
 obtain ⟨_, _, ⟨T111, L111, k111, n111⟩, -, X111, ⟨Lc111, hQ111, l111, y111, z111⟩, st111⟩ := X109.virtualBack hx (y := mN21) (z := mN21) hown (mvT hZ (tw hw 102 rfl)) (mvT hZ (tw hw 103 rfl)) (notFace_of_selects (args := #[]) (mvT hZ (tw hw 105 rfl))) (mvT hZ (tw hw 105 rfl)) (mvT hZ (tw hw 104 rfl)) (by decide) (backOf (W := 1) (rmBLenL l Z a0 hw [] b101 (cs.map expC) cs0 v102 kv102 (((lat cs).length)) ml109 h109 n0 O112 S_CS c_CS Eb109 Bv109 Bc109 Bn109 Bm109 Vb109) hZ (tw hw 106 rfl) (tw hw 33 rfl) (by decide) (by decide)) q111a q111c (g := (mkF m 13 #[vR a1, vR b101, vI (oN ((lat cs).length))] [(.ref b101), (.int (oN ((lat cs).length)))])) rfl (by rw [hml]; rfl) (Steps.refl _) (argsL := []) (rest := [(.int (oN ((lat cs).length)))]) (lenOf pd_6 rfl) rfl (wL _) (hb hby d5_13) (fun _ _ => ⟨rfl, e109, (by decide : 2 + 0 ≤ _), (by decide : 44 + 0 ≤ _)⟩)
 dsimp only [Pt.U, Pt.locs, Pt.cells, Pt.slots] at X111 l111 y111 z111 st111 hQ111
 subst l111 y111 z111
 obtain ⟨rfl, N111q, H111⟩ := hQ111
 have N111 := Fr.app N109 N111q
 obtain ⟨cq113, kq113, q113a, q113b, q113c⟩ := isOf hZ H111 Eb109
 obtain ⟨_, _, ⟨T113, L113, k113, n113⟩, -, X113, ⟨Lc113, hQ113, l113, y113, z113⟩, st113⟩ := X111.virtualBack hx (y := mN49) (z := mN49) hown (mvT hZ (tw hw 111 rfl)) (mvT hZ (tw hw 112 rfl)) (notFace_of_selects (args := #[]) (mvT hZ (tw hw 114 rfl))) (mvT hZ (tw hw 114 rfl)) (mvT hZ (tw hw 113 rfl)) (by decide) (backOf (W := 0) (rmTsL l Z a0 hw [] b101 (cs.map expC) cs0 v102 kv102 ml109 h109 n0 O112 S_CS c_CS Eb109 Bv109 Bc109 (by rw [hlen]; exact Bn109) Bm109 (by rw [hlen]; exact Vb109) (by rw [hlen]; exact hn)) hZ (tw hw 115 rfl) (tw hw 33 rfl) (by decide) (by decide)) q113a q113c (g := (mkF m 44 #[vR a1, vR b101, vI (oN ((lat cs).length))] [(.ref b101)])) rfl (by rw [hml]; rfl) (Steps.refl _) (argsL := []) (rest := []) (lenOf pd_14 rfl) rfl (wL _) (hb hby d5_44) (fun _ _ => ⟨rfl, H111, (by decide : 2 + 3 ≤ _), (by decide : 44 + 48 ≤ _)⟩)
 dsimp only [Pt.U, Pt.locs, Pt.cells, Pt.slots] at X113 l113 y113 z113 st113 hQ113
 subst l113 y113 z113
 obtain ⟨x113, t113, kb113, rfl, N113q, K113, gx113, E113, Fv113, Fc113, gt113, tx113, V113⟩ := hQ113
 have ltx113 : @LT.lt Nat _ x113 T113.heap.size := E113.lt
 have ltt113 : @LT.lt Nat _ t113 T113.heap.size := V113.lt
 have sz4_K113 := K113.1
 have N113 := Fr.app N111 N113q
 have KC114 : Keep h0 h101 [] := (Keep.refl h0 []).trans K101 (all0)
 have KC115 : Keep h0 T102.heap [] := KC114.trans K102 (allS (Or.inr (by omega)) (all0))
 have KC116 : Keep h0 h109 [] := KC115.trans K109 (allS (Or.inr (by omega)) (allS (Or.inr (by omega)) (all0)))
 have KC117 : Keep h0 T113.heap [] := KC116.trans K113 (all0)
 obtain ⟨fs, hr, hrun, hended, hW, hsame⟩ := X113.leave (v := some (.ref x113)) (nvr Bd.returns)
 refine ⟨_, _, pre108 _ ?_, hrun, hended, _, _, rfl, ?_, ⟨_, rfl⟩, hW, hsame.mono (by decide) (by decide)⟩
 ·skip
  refine st109 _ ?_
  show SS p e below T109 m 11 #[vR a1, vR b101, vI (oN ((lat cs).length))] [] _
  refine XS.iloadN X109.here hx rfl (hb hby d5_11) rfl ?_
  refine XS.aloadN X109.here hx rfl (hb hby d5_12) rfl rfl ?_
  show SS p e below T109 m 13 #[vR a1, vR b101, vI (oN ((lat cs).length))] [(.ref b101), (.int (oN ((lat cs).length)))] _
  refine st111.trans ?_
  refine XS.icmpYes X111.here hx rfl (pc0 := 16) (pc' := 43) rfl (hb hby d5_16) rfl (flt (fun q => Nat.lt_irrefl _ ((own_lt (by omega) (by omega)).mp q) : ¬ ((oN ((lat cs).length)) < (oN ((lat cs).length))))).2.1 (by decide) (by decide) ?_
  refine XS.aloadN X111.here hx rfl (hb hby d5_43) rfl rfl ?_
  show SS p e below T111 m 44 #[vR a1, vR b101, vI (oN ((lat cs).length))] [(.ref b101)] _
  refine st113.trans ?_
  show SS p e below T113 m 47 #[vR a1, vR b101, vI (oN ((lat cs).length))] [(.ref x113)] _
  exact X113.areturnOut hx rfl Bd.returns rfl (hb hby d5_47) hr
 ·show Q_rmPrL Z a1 cs cs0 t1 k1 fm h0 n0 _ T113.heap _
  exact ⟨_, _, _, rfl, N113, KC117, (by omega), E113, Fv113, Fc113, (by omega), (by omega), V113⟩
theorem ef_rmPrU (m : MethodId) (y0 : Addr) : entryFrame m #[(.ref y0)] 3 = (mkF m 0 #[vR y0, .unset, .unset] []) := by first | (simp [entryFrame, mkF, argsToLocals, Value.category]; done) | rfl
def Q_rmPrU (Z : State) (a1 : Addr) (cs : List Int32) (cs0 : Int32) (t1 : Addr) (k1 : ClassId) (fm : Value) (m1 : Nat) (h0 : Heap) (n0 : Nat) (v : Option Value) (h : Heap) (L : List Loc) : Prop := ∃ (x t : Addr) (kb : ClassId), v = some (.ref x) ∧ Fr n0 L ∧ Keep h0 h [] ∧ h0.size ≤ x ∧ Exa Z h x "java/lang/String" ∧ Fld Z h x "java/lang/String" "value" "[B" (.ref t) ∧ Fld Z h x "java/lang/String" "coder" "B" (.int 1) ∧ h0.size ≤ t ∧ @Ne Nat t x ∧ Arv Z h t kb .byte (oN (2 * (cs.map expC).length)) (u16 (cs.map expC)) (.int 0)
theorem rmPrU (l : Launch) (Z : State) (a0 : Array Value) (hw : HW a0 Z) (ws : List Jvm.Cond) (a1 : Addr) (cs : List Int32) (cs0 : Int32) (t1 : Addr) (k1 : ClassId) (fm : Value) (m1 : Nat) (h0 : Heap) (n0 : Nat) (O0 : Old Z n0 h0) (S_CS : SCS Z cs0) (c_CS : ¬ (cs0 = (0 : Int32))) (E1 : Exa Z h0 a1 "java/lang/String") (Fv1 : Fld Z h0 a1 "java/lang/String" "value" "[B" (.ref t1)) (Fc1 : Fld Z h0 a1 "java/lang/String" "coder" "B" (.int 1)) (V1 : Arv Z h0 t1 k1 .byte (oN (2 * cs.length)) (u16 cs) (.int 0)) (hn : cs.length ≤ 4) (S_FM : SFM Z fm) (r_FM : fm.isRef = true) (hcs : ∀ c ∈ cs, ¬ c < 0 ∧ ¬ (65535 : Int32) < c) (S_AD : SAD Z) (S_HI : SHI Z) (S_LO : SLO Z) (hj : m1 < cs.length) (hpre : ∀ j, j < m1 → ¬ ((255 : Int32) < cs.getD j 0)) (hend : (255 : Int32) < (cs.getD m1 0)) :
  MF l mN50 prog_48_method_2_code 3 (some (.object "java/lang/String")) ws (Rm 8 5 92 232) Z #[(.ref a1)] h0 (Q_rmPrU Z a1 cs cs0 t1 k1 fm m1 h0 n0) := by
 refine MetFree.of_bodySF (plainFor_of_name pn_5) hisR ?_
 intro p e s m args below meth c s₁ Bd hml0 hP hK
 obtain ⟨rfl, hZ, hh⟩ := hP
 have hx := Bd.exec
 have hby := Bd.bytes
 have hml : c.maxLocals = 3 := hml0
 have hown : s.vm.findClass "com/example/tidemark/tidemark/core/ReportLines" = some m.cls := findClass_of_methodNamed Bd.named
 have X0 : Stand p l e (Rm 8 5 92 232) s m #[(.ref a1)] below meth c s₁ [] 0 0 := Stand.of_body Bd
 have e0 : s₁.heap = h0 := by rw [← hh, Bd.state]; rfl
 have N0 := Fr.nil n0
 have hn0 : n0 ≤ h0.size := O0.1 ▸ O0.2.1
 have pre0 : ∀ t, SS p e below s₁ m 0 #[vR a1, .unset, .unset] [] t → SE p e below s₁ m #[(.ref a1)] 3 t := fun t k => castTop (ef_rmPrU m a1) k
 have lt_a1 : @LT.lt Nat _ a1 h0.size := E1.lt
 have lt_t1 : @LT.lt Nat _ t1 h0.size := V1.lt
 obtain ⟨T101, h101, X101, e101, E101, A101, D101, -, st101⟩ := newO X0 hx hZ hown (tw hw 31 rfl) (tw hw 32 rfl) (tw hw 33 rfl) e0 (g := (mkF m 0 #[vR a1, .unset, .unset] [])) rfl (hb hby d5_0) (by decide) (by decide)
 obtain ⟨b101, g101⟩ : ∃ z, z = h0.size := ⟨_, rfl⟩
 rw [← g101] at A101 D101 st101
 have lt101 : @LT.lt Nat _ b101 h101.size := A101.lt
 have K101 : Keep h0 h101 [] := (Keep.refl _ _).ext E101
 have sz1_K101 := K101.1
 have F101_coder : Fld Z h101 b101 "java/lang/AbstractStringBuilder" "coder" "B" (.int 0) := D101 (Or.inl (tw hw 58 rfl)) (ty := .byte) (by decide)
 have F101_value : Fld Z h101 b101 "java/lang/AbstractStringBuilder" "value" "[B" .null := D101 (Or.inl (tw hw 60 rfl)) (ty := (.array .byte)) (by decide)
 have F101_count : Fld Z h101 b101 "java/lang/AbstractStringBuilder" "count" "I" (.int 0) := D101 (Or.inl (tw hw 76 rfl)) (ty := .int) (by decide)
 have F101_maybeLatin1 : Fld Z h101 b101 "java/lang/AbstractStringBuilder" "maybeLatin1" "Z" (.int 0) := D101 (Or.inl (tw hw 242 rfl)) (ty := .boolean) (by decide)
 have C103 := E1.keep K101
 have C104 := Fv1.keep K101 nin0
 have C105 := Fc1.keep K101 nin0
 have C106 := V1.keep K101 nin0
 have O107 : Old Z n0 h101 := O0.keep K101 all0
 obtain ⟨_, _, ⟨T102, L102, k102, n102⟩, -, X102, ⟨Lc102, hQ102, l102, y102, z102⟩, st102⟩ := X101.specialBack hx (y := mN31) rfl hown (mvT hZ (tw hw 34 rfl)) (mvT hZ (tw hw 35 rfl)) (mvT hZ (tw hw 36 rfl)) (by decide) (backOf (W := 1) (rmSiU l Z a0 hw [] b101 a1 cs cs0 t1 k1 h101 n0 O107 S_CS c_CS C103 C104 C105 C106 hn (by omega : @LE.le Nat _ n0 b101) (by omega) (by omega) A101 F101_value F101_coder F101_count F101_maybeLatin1) hZ (tw hw 36 rfl) (tw hw 33 rfl) (by decide) (by decide)) (g := (mkF m 5 #[vR a1, .unset, .unset] [(.ref a1), (.ref b101), (.ref b101)])) rfl (by rw [hml]; rfl) (Steps.refl _) (a := b101) (argsL := [(.ref a1)]) (rest := [(.ref b101)]) (lenOf pd_5 rfl) rfl (wL _) (hb hby d5_5) (fun _ _ => ⟨rfl, e101, (by decide : 1 + 1 ≤ _), (by decide : 4 + 40 ≤ _)⟩)
 dsimp only [Pt.U, Pt.locs, Pt.cells, Pt.slots] at X102 l102 y102 z102 st102 hQ102
 subst l102 y102 z102
 obtain ⟨v102, kv102, rfl, N102q, K102, gv102, Eb102, Bv102, Bc102, Bn102, Bm102, Vb102⟩ := hQ102
 have ltv102 : @LT.lt Nat _ v102 T102.heap.size := Vb102.lt
 have sz2_K102 := K102.1
 have N102 := Fr.app N0 N102q
 have pre108 : ∀ t, SS p e below T102 m 11 #[vR a1, vR b101, vI 0] [] t → SE p e below s₁ m #[(.ref a1)] 3 t := by
  intro t kt
  refine pre0 _ ?_
  show SS p e below s₁ m 0 #[vR a1, .unset, .unset] [] _
  refine st101 _ ?_
  refine XS.dup X101.here hx rfl (hb hby d5_3) rfl rfl ?_
  refine XS.aloadN X101.here hx rfl (hb hby d5_4) rfl rfl ?_
  show SS p e below T101 m 5 #[vR a1, .unset, .unset] [(.ref a1), (.ref b101), (.ref b101)] _
  refine st102.trans ?_
  refine XS.astoreN X102.here hx rfl (hb hby d5_8) rfl rfl (l' := #[vR a1, vR b101, .unset]) rfl ?_
  refine XS.iconst X102.here hx rfl (hb hby d5_9) ?_
  refine XS.istoreN X102.here hx rfl (hb hby d5_10) rfl (l' := #[vR a1, vR b101, vI 0]) rfl ?_
  exact kt
 have O110 : Old Z n0 T102.heap := O107.keep K102 (allS (by omega) (all0))
 obtain ⟨T109, h109, L109, ml109, X109, e109, N109, K109, Eb109, Bv109, Bc109, Bn109, Bm109, Vb109, st109⟩ := lpPrU a1 b101 cs cs0 v102 kv102 (cs.length) (0 : Int32) fm X102 hx hZ hw hby hml hown rfl O110 N102 S_CS c_CS S_FM r_FM Eb102 Bv102 Bc102 Bn102 Bm102 Vb102 rfl hn hcs S_AD S_HI S_LO (by omega : @LE.le Nat _ n0 b101) (by omega : @LE.le Nat _ n0 v102) (by omega) (cs.length) (Nat.le_refl _)
 have hfull : prt cs (cs.length) = cs.map expC := by exact prt_full cs
 rw [hfull] at Vb109
 have hlen : (cs.map expC).length = cs.length := by simp
 have hpre2 : ∀ j, j < m1 → ¬ ((255 : Int32) < (cs.map expC).getD j 0) := fun j h q => by
  rw [own_mget (by omega)] at q
  exact hpre j h (own_e255.mp q)
 have hend2 : (255 : Int32) < ((cs.map expC).getD m1 0) := by rw [own_mget hj]; exact own_e255.mpr hend
 have sz3_K109 := K109.1
 have O112 : Old Z n0 h109 := O110.keep K109 (allS (by omega) (allS (by omega) (all0)))
 obtain ⟨cq111, kq111, q111a, q111b, q111c⟩ := isOf hZ e109 Eb109
 obtain ⟨_, _, ⟨T111, L111, k111, n111⟩, -, X111, ⟨Lc111, hQ111, l111, y111, z111⟩, st111⟩ := X109.virtualBack hx (y := mN21) (z := mN21) hown (mvT hZ (tw hw 102 rfl)) (mvT hZ (tw hw 103 rfl)) (notFace_of_selects (args := #[]) (mvT hZ (tw hw 105 rfl))) (mvT hZ (tw hw 105 rfl)) (mvT hZ (tw hw 104 rfl)) (by decide) (backOf (W := 1) (rmBLenU l Z a0 hw [] b101 (cs.map expC) cs0 v102 kv102 ((cs.length)) ml109 h109 n0 O112 S_CS c_CS Eb109 Bv109 Bc109 Bn109 Bm109 Vb109) hZ (tw hw 106 rfl) (tw hw 33 rfl) (by decide) (by decide)) q111a q111c (g := (mkF m 13 #[vR a1, vR b101, vI (oN (cs.length))] [(.ref b101), (.int (oN (cs.length)))])) rfl (by rw [hml]; rfl) (Steps.refl _) (argsL := []) (rest := [(.int (oN (cs.length)))]) (lenOf pd_6 rfl) rfl (wL _) (hb hby d5_13) (fun _ _ => ⟨rfl, e109, (by decide : 2 + 0 ≤ _), (by decide : 44 + 0 ≤ _)⟩)
 dsimp only [Pt.U, Pt.locs, Pt.cells, Pt.slots] at X111 l111 y111 z111 st111 hQ111
 subst l111 y111 z111
 obtain ⟨rfl, N111q, H111⟩ := hQ111
 have N111 := Fr.app N109 N111q
 obtain ⟨cq113, kq113, q113a, q113b, q113c⟩ := isOf hZ H111 Eb109
 obtain ⟨_, _, ⟨T113, L113, k113, n113⟩, -, X113, ⟨Lc113, hQ113, l113, y113, z113⟩, st113⟩ := X111.virtualBack hx (y := mN49) (z := mN49) hown (mvT hZ (tw hw 111 rfl)) (mvT hZ (tw hw 112 rfl)) (notFace_of_selects (args := #[]) (mvT hZ (tw hw 114 rfl))) (mvT hZ (tw hw 114 rfl)) (mvT hZ (tw hw 113 rfl)) (by decide) (backOf (W := 0) (rmTsU l Z a0 hw [] b101 (cs.map expC) cs0 v102 kv102 ml109 m1 fm h109 n0 O112 S_CS c_CS Eb109 Bv109 Bc109 (by rw [hlen]; exact Bn109) Bm109 (by rw [hlen]; exact Vb109) (by rw [hlen]; exact hn) S_AD S_HI S_LO (own_mapU hcs) (by rw [hlen]; exact hj) hpre2 hend2 S_FM r_FM) hZ (tw hw 115 rfl) (tw hw 33 rfl) (by decide) (by decide)) q113a q113c (g := (mkF m 44 #[vR a1, vR b101, vI (oN (cs.length))] [(.ref b101)])) rfl (by rw [hml]; rfl) (Steps.refl _) (argsL := []) (rest := []) (lenOf pd_14 rfl) rfl (wL _) (hb hby d5_44) (fun _ _ => ⟨rfl, H111, (by decide : 2 + 3 ≤ _), (by decide : 44 + 48 ≤ _)⟩)
 dsimp only [Pt.U, Pt.locs, Pt.cells, Pt.slots] at X113 l113 y113 z113 st113 hQ113
 subst l113 y113 z113
 obtain ⟨x113, t113, kb113, rfl, N113q, K113, gx113, E113, Fv113, Fc113, gt113, tx113, V113⟩ := hQ113
 have ltx113 : @LT.lt Nat _ x113 T113.heap.size := E113.lt
 have ltt113 : @LT.lt Nat _ t113 T113.heap.size := V113.lt
 have sz4_K113 := K113.1
 have N113 := Fr.app N111 N113q
 have KC114 : Keep h0 h101 [] := (Keep.refl h0 []).trans K101 (all0)
 have KC115 : Keep h0 T102.heap [] := KC114.trans K102 (allS (Or.inr (by omega)) (all0))
 have KC116 : Keep h0 h109 [] := KC115.trans K109 (allS (Or.inr (by omega)) (allS (Or.inr (by omega)) (all0)))
 have KC117 : Keep h0 T113.heap [] := KC116.trans K113 (all0)
 obtain ⟨fs, hr, hrun, hended, hW, hsame⟩ := X113.leave (v := some (.ref x113)) (nvr Bd.returns)
 refine ⟨_, _, pre108 _ ?_, hrun, hended, _, _, rfl, ?_, ⟨_, rfl⟩, hW, hsame.mono (by decide) (by decide)⟩
 ·skip
  refine st109 _ ?_
  show SS p e below T109 m 11 #[vR a1, vR b101, vI (oN (cs.length))] [] _
  refine XS.iloadN X109.here hx rfl (hb hby d5_11) rfl ?_
  refine XS.aloadN X109.here hx rfl (hb hby d5_12) rfl rfl ?_
  show SS p e below T109 m 13 #[vR a1, vR b101, vI (oN (cs.length))] [(.ref b101), (.int (oN (cs.length)))] _
  refine st111.trans ?_
  refine XS.icmpYes X111.here hx rfl (pc0 := 16) (pc' := 43) rfl (hb hby d5_16) rfl (flt (fun q => Nat.lt_irrefl _ ((own_lt (by omega) (by omega)).mp q) : ¬ ((oN (cs.length)) < (oN (cs.length))))).2.1 (by decide) (by decide) ?_
  refine XS.aloadN X111.here hx rfl (hb hby d5_43) rfl rfl ?_
  show SS p e below T111 m 44 #[vR a1, vR b101, vI (oN (cs.length))] [(.ref b101)] _
  refine st113.trans ?_
  show SS p e below T113 m 47 #[vR a1, vR b101, vI (oN (cs.length))] [(.ref x113)] _
  exact X113.areturnOut hx rfl Bd.returns rfl (hb hby d5_47) hr
 ·show Q_rmPrU Z a1 cs cs0 t1 k1 fm m1 h0 n0 _ T113.heap _
  exact ⟨_, _, _, rfl, N113, KC117, (by omega), E113, Fv113, Fc113, (by omega), (by omega), V113⟩
theorem d44_0 : DK cD51 0 (.iload_n 0) 1 := by decide +kernel
theorem d44_1 : DK cD51 1 (.bipush 31) 2 := by decide +kernel
theorem d44_3 : DK cD51 3 (.if_icmp .gt 6) 3 := by decide +kernel
theorem d44_6 : DK cD51 6 (.bipush 63) 2 := by decide +kernel
theorem d44_8 : DK cD51 8 (.ireturn) 1 := by decide +kernel
theorem d44_9 : DK cD51 9 (.iload_n 0) 1 := by decide +kernel
theorem d44_10 : DK cD51 10 (.bipush 127) 2 := by decide +kernel
theorem d44_12 : DK cD51 12 (.if_icmp .lt 13) 3 := by decide +kernel
theorem d44_15 : DK cD51 15 (.iload_n 0) 1 := by decide +kernel
theorem d44_16 : DK cD51 16 (.sipush 159) 3 := by decide +kernel
theorem d44_19 : DK cD51 19 (.if_icmp .gt 6) 3 := by decide +kernel
theorem d44_22 : DK cD51 22 (.bipush 63) 2 := by decide +kernel
theorem d44_24 : DK cD51 24 (.ireturn) 1 := by decide +kernel
theorem d44_25 : DK cD51 25 (.iload_n 0) 1 := by decide +kernel
theorem d44_26 : DK cD51 26 (.ireturn) 1 := by decide +kernel
theorem pn_0 : plainName "com/example/tidemark/tidemark/core/ReportLinesPrintablePinLaw" = true := by first | (simp [plainName, overriddenIn]; done) | decide +kernel
theorem ef_rmExp (m : MethodId) (y0 : Int32) : entryFrame m #[(.int y0)] 1 = (mkF m 0 #[vI y0] []) := by first | (simp [entryFrame, mkF, argsToLocals, Value.category]; done) | rfl
def Q_rmExp (Z : State) (p1 : Int32) (h0 : Heap) (n0 : Nat) (v : Option Value) (h : Heap) (L : List Loc) : Prop := v = some (.int (expC p1)) ∧ Fr n0 L ∧ h = h0
theorem rmExp (l : Launch) (Z : State) (a0 : Array Value) (hw : HW a0 Z) (ws : List Jvm.Cond) (p1 : Int32) (h0 : Heap) (n0 : Nat) (O0 : Old Z n0 h0) (r1 : ¬ p1 < 0 ∧ ¬ (65535 : Int32) < p1) :
  MF l mN51 method_4_code 1 (some .char) ws (Rm 0 0 0 0) Z #[(.int p1)] h0 (Q_rmExp Z p1 h0 n0) := by
 refine MetFree.of_bodySF (plainFor_of_name pn_0) hisR ?_
 intro p e s m args below meth c s₁ Bd hml0 hP hK
 obtain ⟨rfl, hZ, hh⟩ := hP
 have hx := Bd.exec
 have hby := Bd.bytes
 have hml : c.maxLocals = 1 := hml0
 have hown : s.vm.findClass "com/example/tidemark/tidemark/core/ReportLinesPrintablePinLaw" = some m.cls := findClass_of_methodNamed Bd.named
 have X0 : Stand p l e (Rm 0 0 0 0) s m #[(.int p1)] below meth c s₁ [] 0 0 := Stand.of_body Bd
 have e0 : s₁.heap = h0 := by rw [← hh, Bd.state]; rfl
 have N0 := Fr.nil n0
 have hn0 : n0 ≤ h0.size := O0.1 ▸ O0.2.1
 have pre0 : ∀ t, SS p e below s₁ m 0 #[vI p1] [] t → SE p e below s₁ m #[(.int p1)] 1 t := fun t k => castTop (ef_rmExp m p1) k
 have pre102 : ∀ t, SS p e below s₁ m 3 #[vI p1] [(.int 31), (.int p1)] t → SE p e below s₁ m #[(.int p1)] 1 t := by
  intro t kt
  refine pre0 _ ?_
  show SS p e below s₁ m 0 #[vI p1] [] _
  refine XS.iloadN X0.here hx rfl (hb hby d44_0) rfl ?_
  refine XS.bipush X0.here hx rfl (hb hby d44_1) ?_
  exact kt
 by_cases hc101 : (31 : Int32) < p1
 ·skip
  have pre104 : ∀ t, SS p e below s₁ m 12 #[vI p1] [(.int 127), (.int p1)] t → SE p e below s₁ m #[(.int p1)] 1 t := by
   intro t kt
   refine pre102 _ ?_
   show SS p e below s₁ m 3 #[vI p1] [(.int 31), (.int p1)] _
   refine XS.icmpYes X0.here hx rfl (pc0 := 3) (pc' := 9) rfl (hb hby d44_3) rfl (tlt hc101).2.2.1 (by decide) (by decide) ?_
   refine XS.iloadN X0.here hx rfl (hb hby d44_9) rfl ?_
   refine XS.bipush X0.here hx rfl (hb hby d44_10) ?_
   exact kt
  by_cases hc103 : p1 < (127 : Int32)
  ·skip
   obtain ⟨fs, hr, hrun, hended, hW, hsame⟩ := X0.leave (v := some (.int (nar .char p1))) (nvr Bd.returns)
   refine ⟨_, _, pre104 _ ?_, hrun, hended, _, _, rfl, ?_, ⟨_, rfl⟩, hW, hsame.mono (by decide) (by decide)⟩
   ·skip
    show SS p e below s₁ m 12 #[vI p1] [(.int 127), (.int p1)] _
    refine XS.icmpYes X0.here hx rfl (pc0 := 12) (pc' := 25) rfl (hb hby d44_12) rfl (tlt hc103).1 (by decide) (by decide) ?_
    refine XS.iloadN X0.here hx rfl (hb hby d44_25) rfl ?_
    show SS p e below s₁ m 26 #[vI p1] [(.int p1)] _
    exact retN X0 hx (t := .char) Bd.returns (by simp) (hb hby d44_26) hr
   ·show Q_rmExp Z p1 h0 n0 _ s₁.heap _
    rw [e0]
    exact ⟨by rw [expC, if_neg (fun q => q hc101), if_pos hc103, own_nc r1], N0, rfl⟩
  ·skip
   have pre106 : ∀ t, SS p e below s₁ m 19 #[vI p1] [(.int 159), (.int p1)] t → SE p e below s₁ m #[(.int p1)] 1 t := by
    intro t kt
    refine pre104 _ ?_
    show SS p e below s₁ m 12 #[vI p1] [(.int 127), (.int p1)] _
    refine XS.icmpNo X0.here hx rfl (hb hby d44_12) rfl (flt hc103).1 ?_
    refine XS.iloadN X0.here hx rfl (hb hby d44_15) rfl ?_
    refine XS.sipush X0.here hx rfl (hb hby d44_16) ?_
    exact kt
   by_cases hc105 : (159 : Int32) < p1
   ·skip
    obtain ⟨fs, hr, hrun, hended, hW, hsame⟩ := X0.leave (v := some (.int (nar .char p1))) (nvr Bd.returns)
    refine ⟨_, _, pre106 _ ?_, hrun, hended, _, _, rfl, ?_, ⟨_, rfl⟩, hW, hsame.mono (by decide) (by decide)⟩
    ·skip
     show SS p e below s₁ m 19 #[vI p1] [(.int 159), (.int p1)] _
     refine XS.icmpYes X0.here hx rfl (pc0 := 19) (pc' := 25) rfl (hb hby d44_19) rfl (tlt hc105).2.2.1 (by decide) (by decide) ?_
     refine XS.iloadN X0.here hx rfl (hb hby d44_25) rfl ?_
     show SS p e below s₁ m 26 #[vI p1] [(.int p1)] _
     exact retN X0 hx (t := .char) Bd.returns (by simp) (hb hby d44_26) hr
    ·show Q_rmExp Z p1 h0 n0 _ s₁.heap _
     rw [e0]
     exact ⟨by rw [expC, if_neg (fun q => q hc101), if_neg hc103, if_pos hc105, own_nc r1], N0, rfl⟩
   ·skip
    obtain ⟨fs, hr, hrun, hended, hW, hsame⟩ := X0.leave (v := some (.int 63)) (nvr Bd.returns)
    refine ⟨_, _, pre106 _ ?_, hrun, hended, _, _, rfl, ?_, ⟨_, rfl⟩, hW, hsame.mono (by decide) (by decide)⟩
    ·skip
     show SS p e below s₁ m 19 #[vI p1] [(.int 159), (.int p1)] _
     refine XS.icmpNo X0.here hx rfl (hb hby d44_19) rfl (flt hc105).2.2.1 ?_
     refine XS.bipush X0.here hx rfl (hb hby d44_22) ?_
     show SS p e below s₁ m 24 #[vI p1] [(.int 63)] _
     exact retN X0 hx (t := .char) Bd.returns (by simp) (hb hby d44_24) hr
    ·show Q_rmExp Z p1 h0 n0 _ s₁.heap _
     rw [e0]
     exact ⟨by rw [expC, if_neg (fun q => q hc101), if_neg hc103, if_neg hc105], N0, rfl⟩
 ·skip
  obtain ⟨fs, hr, hrun, hended, hW, hsame⟩ := X0.leave (v := some (.int 63)) (nvr Bd.returns)
  refine ⟨_, _, pre102 _ ?_, hrun, hended, _, _, rfl, ?_, ⟨_, rfl⟩, hW, hsame.mono (by decide) (by decide)⟩
  ·skip
   show SS p e below s₁ m 3 #[vI p1] [(.int 31), (.int p1)] _
   refine XS.icmpNo X0.here hx rfl (hb hby d44_3) rfl (flt hc101).2.2.1 ?_
   refine XS.bipush X0.here hx rfl (hb hby d44_6) ?_
   show SS p e below s₁ m 8 #[vI p1] [(.int 63)] _
   exact retN X0 hx (t := .char) Bd.returns (by simp) (hb hby d44_8) hr
  ·show Q_rmExp Z p1 h0 n0 _ s₁.heap _
   rw [e0]
   exact ⟨by rw [expC, if_pos hc101], N0, rfl⟩
theorem d43_0 : DK cD52 0 (.iload_n 1) 1 := by decide +kernel
theorem d43_1 : DK cD52 1 (.aload_n 0) 1 := by decide +kernel
theorem d43_2 : DK cD52 2 (.arraylength) 1 := by decide +kernel
theorem d43_3 : DK cD52 3 (.invokestatic 9) 3 := by decide +kernel
theorem d43_6 : DK cD52 6 (.aload_n 0) 1 := by decide +kernel
theorem d43_7 : DK cD52 7 (.iload_n 1) 1 := by decide +kernel
theorem d43_8 : DK cD52 8 (.baload) 1 := by decide +kernel
theorem d43_9 : DK cD52 9 (.sipush 255) 3 := by decide +kernel
theorem d43_12 : DK cD52 12 (.iand) 1 := by decide +kernel
theorem d43_13 : DK cD52 13 (.i2c) 1 := by decide +kernel
theorem d43_14 : DK cD52 14 (.ireturn) 1 := by decide +kernel
theorem ef_rmXcL (m : MethodId) (y0 : Addr) (y1 : Int32) : entryFrame m #[(.ref y0), (.int y1)] 2 = (mkF m 0 #[vR y0, vI y1] []) := by first | (simp [entryFrame, mkF, argsToLocals, Value.category]; done) | rfl
def Q_rmXcL (Z : State) (a1 : Addr) (cs : List Int32) (k1 : ClassId) (i : Nat) (fm : Value) (h0 : Heap) (n0 : Nat) (v : Option Value) (h : Heap) (L : List Loc) : Prop := v = some (.int (cs.getD i 0)) ∧ Fr n0 L ∧ h = h0
theorem rmXcL (l : Launch) (Z : State) (a0 : Array Value) (hw : HW a0 Z) (ws : List Jvm.Cond) (a1 : Addr) (cs : List Int32) (k1 : ClassId) (i : Nat) (fm : Value) (h0 : Heap) (n0 : Nat) (O0 : Old Z n0 h0) (V1 : Arv Z h0 a1 k1 .byte (oN (lat cs).length) ((lat cs).map Value.int) (.int 0)) (hn : (lat cs).length ≤ 4) (hi : i < cs.length) (S_FM : SFM Z fm) (r_FM : fm.isRef = true) (hL : ∀ c ∈ cs, ¬ c < 0 ∧ ¬ (255 : Int32) < c) :
  MF l mN52 jdk_43_method_2_code 2 (some .char) ws (Rm 3 0 0 60) Z #[(.ref a1), (.int (oN i))] h0 (Q_rmXcL Z a1 cs k1 i fm h0 n0) := by
 refine MetFree.of_bodySF (plainFor_of_name pn_40) hisR ?_
 intro p e s m args below meth c s₁ Bd hml0 hP hK
 obtain ⟨rfl, hZ, hh⟩ := hP
 have hx := Bd.exec
 have hby := Bd.bytes
 have hml : c.maxLocals = 2 := hml0
 have hown : s.vm.findClass "java/lang/StringLatin1" = some m.cls := findClass_of_methodNamed Bd.named
 have X0 : Stand p l e (Rm 3 0 0 60) s m #[(.ref a1), (.int (oN i))] below meth c s₁ [] 0 0 := Stand.of_body Bd
 have e0 : s₁.heap = h0 := by rw [← hh, Bd.state]; rfl
 have N0 := Fr.nil n0
 have hn0 : n0 ≤ h0.size := O0.1 ▸ O0.2.1
 have pre0 : ∀ t, SS p e below s₁ m 0 #[vR a1, vI (oN i)] [] t → SE p e below s₁ m #[(.ref a1), (.int (oN i))] 2 t := fun t k => castTop (ef_rmXcL m a1 ((oN i))) k
 have hi2 : i < (lat cs).length := by rw [lat_len]; omega
 have hl2 := lat_len cs
 obtain ⟨cl101, Ar101, q101, S101, Nn101, H101, G101⟩ := id V1
 obtain ⟨_, _, ⟨T102, L102, k102, n102⟩, -, X102, ⟨Lc102, hQ102, l102, y102, z102⟩, st102⟩ := Jvm.LawKit.callS X0 hx (y := mN18) hown (mvT hZ (tw hw 216 rfl)) (mvT hZ (tw hw 175 rfl)) (mvT hZ (tw hw 8 rfl)) (mvT hZ (tw hw 176 rfl)) (by decide) (backOf (W := 0) (rmCi l Z a0 hw [] (oN i) (oN (lat cs).length) fm h0 n0 O0 S_FM r_FM (own_nn (by omega)) ((own_lt (by omega) (by omega)).mpr (by omega))) hZ (tw hw 176 rfl) (tw hw 8 rfl) (by decide) (by decide)) (g := (mkF m 3 #[vR a1, vI (oN i)] [(.int (oN (lat cs).length)), (.int (oN i))])) rfl (by rw [hml]; rfl) (argsL := [(.int (oN i)), (.int (oN (lat cs).length))]) (rest := []) (lenOf pd_20 rfl) rfl (wL _) (hb hby d43_3) (fun _ _ => ⟨rfl, e0, (by decide : 0 + 0 ≤ _), (by decide : 0 + 0 ≤ _)⟩)
 dsimp only [Pt.U, Pt.locs, Pt.cells, Pt.slots] at X102 l102 y102 z102 st102 hQ102
 subst l102 y102 z102
 obtain ⟨rfl, N102q, H102⟩ := hQ102
 have N102 := Fr.app N0 N102q
 obtain ⟨cl103, Ar103, q103, S103, Nn103, H103, G103⟩ := id V1
 have hat103 : cl103.slots[((oN i)).toNatClampNeg]? = some (.int ((lat cs).getD i 0)) := (Has.at H103 (inb_of S103 ⟨own_nn (by omega), (own_lt (by omega) (by omega)).mpr (by omega)⟩) (own_getD _ hi2 (by omega)))
 have hr104 : (((lat cs).getD i 0) &&& (255 : Int32)) = (cs.getD i 0) := own_latc hL hi
 obtain ⟨fs, hr, hrun, hended, hW, hsame⟩ := X102.leave (v := some (.int (nar .char ((cs.getD i 0).toUInt32.toUInt16.toUInt32.toInt32)))) (nvr Bd.returns)
 refine ⟨_, _, pre0 _ ?_, hrun, hended, _, _, rfl, ?_, ⟨_, rfl⟩, hW, hsame.mono (by decide) (by decide)⟩
 ·skip
  show SS p e below s₁ m 0 #[vR a1, vI (oN i)] [] _
  refine XS.iloadN X0.here hx rfl (hb hby d43_0) rfl ?_
  refine XS.aloadN X0.here hx rfl (hb hby d43_1) rfl rfl ?_
  show SS p e below s₁ m 2 #[vR a1, vI (oN i)] [(.ref a1), (.int (oN i))] _
  refine X0.arraylength hx (by rw [e0]; exact Ar101.1) (State.isArrayOf_alike hZ.alike Ar101.2.1) (g := (mkF m 2 #[vR a1, vI (oN i)] [(.ref a1), (.int (oN i))])) rfl rfl (hb hby d43_2) _ ?_
  rw [len_of S101 Nn101]
  show SS p e below s₁ m 3 #[vR a1, vI (oN i)] [(.int (oN (lat cs).length)), (.int (oN i))] _
  refine st102 _ ?_
  refine XS.aloadN X102.here hx rfl (hb hby d43_6) rfl rfl ?_
  refine XS.iloadN X102.here hx rfl (hb hby d43_7) rfl ?_
  show SS p e below T102 m 8 #[vR a1, vI (oN i)] [(.int (oN i)), (.ref a1)] _
  refine X102.baloadBytes hx (j := (oN i)) (v := (.int ((lat cs).getD i 0))) (by rw [H102]; exact Ar103.1) (State.isArrayOf_alike hZ.alike Ar103.2.1) Ar103.2.2 (inb_of S103 ⟨own_nn (by omega), (own_lt (by omega) (by omega)).mpr (by omega)⟩) hat103 (g := (mkF m 8 #[vR a1, vI (oN i)] [(.int (oN i)), (.ref a1)])) rfl rfl (hb hby d43_8) _ ?_
  refine XS.sipush X102.here hx rfl (hb hby d43_9) ?_
  refine XS.iand X102.here hx rfl (hb hby d43_12) rfl ?_
  show SS p e below T102 m 13 #[vR a1, vI (oN i)] [(.int (((lat cs).getD i 0) &&& (255 : Int32)))] _
  rw [hr104]
  refine XS.i2c X102.here hx rfl (hb hby d43_13) rfl ?_
  show SS p e below T102 m 14 #[vR a1, vI (oN i)] [(.int ((cs.getD i 0).toUInt32.toUInt16.toUInt32.toInt32))] _
  exact retN X102 hx (t := .char) Bd.returns (by simp) (hb hby d43_14) hr
 ·show Q_rmXcL Z a1 cs k1 i fm h0 n0 _ T102.heap _
  rw [H102]
  exact ⟨congrArg (fun z => some (Value.int z)) ((own_c16 _).trans (own_nc (own_c255 (hL _ (own_getmem hi))))), N102, rfl⟩
theorem d41_0 : DK cD53 0 (.aload_n 0) 1 := by decide +kernel
theorem d41_1 : DK cD53 1 (.invokevirtual 492) 3 := by decide +kernel
theorem d41_4 : DK cD53 4 (.ifCond .eq 12) 3 := by decide +kernel
theorem d41_7 : DK cD53 7 (.aload_n 0) 1 := by decide +kernel
theorem d41_8 : DK cD53 8 (.getfield 9) 3 := by decide +kernel
theorem d41_11 : DK cD53 11 (.iload_n 1) 1 := by decide +kernel
theorem d41_12 : DK cD53 12 (.invokestatic 495) 3 := by decide +kernel
theorem d41_15 : DK cD53 15 (.ireturn) 1 := by decide +kernel
theorem ef_rmStcL (m : MethodId) (y0 : Addr) (y1 : Int32) : entryFrame m #[(.ref y0), (.int y1)] 2 = (mkF m 0 #[vR y0, vI y1] []) := by first | (simp [entryFrame, mkF, argsToLocals, Value.category]; done) | rfl
def Q_rmStcL (Z : State) (a1 : Addr) (cs : List Int32) (cs0 : Int32) (t1 : Addr) (k1 : ClassId) (i : Nat) (fm : Value) (h0 : Heap) (n0 : Nat) (v : Option Value) (h : Heap) (L : List Loc) : Prop := v = some (.int (cs.getD i 0)) ∧ Fr n0 L ∧ h = h0
theorem rmStcL (l : Launch) (Z : State) (a0 : Array Value) (hw : HW a0 Z) (ws : List Jvm.Cond) (a1 : Addr) (cs : List Int32) (cs0 : Int32) (t1 : Addr) (k1 : ClassId) (i : Nat) (fm : Value) (h0 : Heap) (n0 : Nat) (O0 : Old Z n0 h0) (S_CS : SCS Z cs0) (c_CS : ¬ (cs0 = (0 : Int32))) (E1 : Exa Z h0 a1 "java/lang/String") (Fv1 : Fld Z h0 a1 "java/lang/String" "value" "[B" (.ref t1)) (Fc1 : Fld Z h0 a1 "java/lang/String" "coder" "B" (.int 0)) (V1 : Arv Z h0 t1 k1 .byte (oN (lat cs).length) ((lat cs).map Value.int) (.int 0)) (hn : (lat cs).length ≤ 4) (hi : i < cs.length) (S_FM : SFM Z fm) (r_FM : fm.isRef = true) (hL : ∀ c ∈ cs, ¬ c < 0 ∧ ¬ (255 : Int32) < c) :
  MF l mN53 jdk_42_method_56_code 2 (some .char) ws (Rm 4 0 0 90) Z #[(.ref a1), (.int (oN i))] h0 (Q_rmStcL Z a1 cs cs0 t1 k1 i fm h0 n0) := by
 refine MetFree.of_bodySF (plainFor_of_name pn_2) hisR ?_
 intro p e s m args below meth c s₁ Bd hml0 hP hK
 obtain ⟨rfl, hZ, hh⟩ := hP
 have hx := Bd.exec
 have hby := Bd.bytes
 have hml : c.maxLocals = 2 := hml0
 have hown : s.vm.findClass "java/lang/String" = some m.cls := findClass_of_methodNamed Bd.named
 have X0 : Stand p l e (Rm 4 0 0 90) s m #[(.ref a1), (.int (oN i))] below meth c s₁ [] 0 0 := Stand.of_body Bd
 have e0 : s₁.heap = h0 := by rw [← hh, Bd.state]; rfl
 have N0 := Fr.nil n0
 have hn0 : n0 ≤ h0.size := O0.1 ▸ O0.2.1
 have pre0 : ∀ t, SS p e below s₁ m 0 #[vR a1, vI (oN i)] [] t → SE p e below s₁ m #[(.ref a1), (.int (oN i))] 2 t := fun t k => castTop (ef_rmStcL m a1 ((oN i))) k
 obtain ⟨cq101, kq101, q101a, q101b, q101c⟩ := isOf hZ e0 E1
 obtain ⟨_, _, ⟨T101, L101, k101, n101⟩, -, X101, ⟨Lc101, hQ101, l101, y101, z101⟩, st101⟩ := X0.virtualBack hx (y := mN11) (z := mN11) hown (mvT hZ (tw hw 208 rfl)) (mvT hZ (tw hw 209 rfl)) (notFace_of_selects (args := #[]) (mvT hZ (tw hw 211 rfl))) (mvT hZ (tw hw 211 rfl)) (mvT hZ (tw hw 210 rfl)) (by decide) (backOf (W := 0) (rmIsLatL l Z a0 hw [] a1 (lat cs) t1 k1 cs0 h0 n0 O0 S_CS c_CS E1 Fv1 Fc1 V1 hn) hZ (tw hw 212 rfl) (tw hw 8 rfl) (by decide) (by decide)) q101a q101c (g := (mkF m 1 #[vR a1, vI (oN i)] [(.ref a1)])) rfl (by rw [hml]; rfl) (Steps.refl _) (argsL := []) (rest := []) (lenOf pd_18 rfl) rfl (wL _) (hb hby d41_1) (fun _ _ => ⟨rfl, e0, (by decide : 0 + 0 ≤ _), (by decide : 0 + 0 ≤ _)⟩)
 dsimp only [Pt.U, Pt.locs, Pt.cells, Pt.slots] at X101 l101 y101 z101 st101 hQ101
 subst l101 y101 z101
 obtain ⟨rfl, N101q, H101⟩ := hQ101
 have N101 := Fr.app N0 N101q
 obtain ⟨T102, X102, e102, st102⟩ := getF X101 hx hZ hown (host := "") (Or.inl (tw hw 25 rfl)) Via.refl H101 Fv1 (g := (mkF m 8 #[vR a1, vI (oN i)] [(.ref a1)])) rfl rfl (hb hby d41_8)
 obtain ⟨_, _, ⟨T103, L103, k103, n103⟩, -, X103, ⟨Lc103, hQ103, l103, y103, z103⟩, st103⟩ := Jvm.LawKit.callS X102 hx (y := mN52) hown (mvT hZ (tw hw 213 rfl)) (mvT hZ (tw hw 214 rfl)) (mvT hZ (tw hw 201 rfl)) (mvT hZ (tw hw 215 rfl)) (by decide) (backOf (W := 0) (rmXcL l Z a0 hw [] t1 cs k1 i fm h0 n0 O0 V1 hn hi S_FM r_FM hL) hZ (tw hw 215 rfl) (tw hw 201 rfl) (by decide) (by decide)) (g := (mkF m 12 #[vR a1, vI (oN i)] [(.int (oN i)), (.ref t1)])) rfl (by rw [hml]; rfl) (argsL := [(.ref t1), (.int (oN i))]) (rest := []) (lenOf pd_31 rfl) rfl (wL _) (hb hby d41_12) (fun _ _ => ⟨rfl, e102, (by decide : 0 + 0 ≤ _), (by decide : 0 + 0 ≤ _)⟩)
 dsimp only [Pt.U, Pt.locs, Pt.cells, Pt.slots] at X103 l103 y103 z103 st103 hQ103
 subst l103 y103 z103
 obtain ⟨rfl, N103q, H103⟩ := hQ103
 have N103 := Fr.app N101 N103q
 obtain ⟨fs, hr, hrun, hended, hW, hsame⟩ := X103.leave (v := some (.int (nar .char (cs.getD i 0)))) (nvr Bd.returns)
 refine ⟨_, _, pre0 _ ?_, hrun, hended, _, _, rfl, ?_, ⟨_, rfl⟩, hW, hsame.mono (by decide) (by decide)⟩
 ·skip
  show SS p e below s₁ m 0 #[vR a1, vI (oN i)] [] _
  refine XS.aloadN X0.here hx rfl (hb hby d41_0) rfl rfl ?_
  show SS p e below s₁ m 1 #[vR a1, vI (oN i)] [(.ref a1)] _
  refine st101.trans ?_
  refine XS.ifNo X101.here hx rfl (hb hby d41_4) rfl ((if0 _ _).trans (feq (by decide : ¬ ((1 : Int32) = (0 : Int32)))).1) ?_
  refine XS.aloadN X101.here hx rfl (hb hby d41_7) rfl rfl ?_
  show SS p e below T101 m 8 #[vR a1, vI (oN i)] [(.ref a1)] _
  refine st102 _ ?_
  refine XS.iloadN X102.here hx rfl (hb hby d41_11) rfl ?_
  show SS p e below T102 m 12 #[vR a1, vI (oN i)] [(.int (oN i)), (.ref t1)] _
  refine st103 _ ?_
  show SS p e below T103 m 15 #[vR a1, vI (oN i)] [(.int (cs.getD i 0))] _
  exact retN X103 hx (t := .char) Bd.returns (by simp) (hb hby d41_15) hr
 ·show Q_rmStcL Z a1 cs cs0 t1 k1 i fm h0 n0 _ T103.heap _
  rw [H103]
  exact ⟨congrArg (fun z => some (Value.int z)) (own_nc (own_c255 (hL _ (own_getmem hi)))), N103, rfl⟩
theorem d28_0 : DK cD54 0 (.iload_n 1) 1 := by decide +kernel
theorem d28_1 : DK cD54 1 (.iload_n 2) 1 := by decide +kernel
theorem d28_2 : DK cD54 2 (.if_icmp .lt 5) 3 := by decide +kernel
theorem d28_5 : DK cD54 5 (.iconst 1) 1 := by decide +kernel
theorem d28_6 : DK cD54 6 (.ireturn) 1 := by decide +kernel
theorem d28_7 : DK cD54 7 (.aload_n 0) 1 := by decide +kernel
theorem d28_8 : DK cD54 8 (.iload_n 1) 1 := by decide +kernel
theorem d28_9 : DK cD54 9 (.invokevirtual 33) 3 := by decide +kernel
theorem d28_12 : DK cD54 12 (.iload_n 3) 1 := by decide +kernel
theorem d28_13 : DK cD54 13 (.invokestatic 37) 3 := by decide +kernel
theorem d28_16 : DK cD54 16 (.if_icmp .ne 7) 3 := by decide +kernel
theorem d28_19 : DK cD54 19 (.iconst 1) 1 := by decide +kernel
theorem d28_20 : DK cD54 20 (.goto 4) 3 := by decide +kernel
theorem d28_24 : DK cD54 24 (.ireturn) 1 := by decide +kernel
theorem pd_32 : parseMethodDescriptor "(C)C" = some ⟨[.char], some .char⟩ := by decide +kernel
theorem ef_rmAtL (m : MethodId) (y0 : Addr) (y1 : Int32) (y2 : Int32) (y3 : Int32) : entryFrame m #[(.ref y0), (.int y1), (.int y2), (.int y3)] 4 = (mkF m 0 #[vR y0, vI y1, vI y2, vI y3] []) := by first | (simp [entryFrame, mkF, argsToLocals, Value.category]; done) | rfl
def Q_rmAtL (Z : State) (a1 : Addr) (p4 : Int32) (cs : List Int32) (cs0 : Int32) (t1 : Addr) (k1 : ClassId) (i : Nat) (fm : Value) (nn : Nat) (h0 : Heap) (n0 : Nat) (v : Option Value) (h : Heap) (L : List Loc) : Prop := v = some (.int 1) ∧ Fr n0 L ∧ h = h0
theorem rmAtL (l : Launch) (Z : State) (a0 : Array Value) (hw : HW a0 Z) (ws : List Jvm.Cond) (a1 : Addr) (p4 : Int32) (cs : List Int32) (cs0 : Int32) (t1 : Addr) (k1 : ClassId) (i : Nat) (fm : Value) (nn : Nat) (h0 : Heap) (n0 : Nat) (O0 : Old Z n0 h0) (S_CS : SCS Z cs0) (c_CS : ¬ (cs0 = (0 : Int32))) (E1 : Exa Z h0 a1 "java/lang/String") (Fv1 : Fld Z h0 a1 "java/lang/String" "value" "[B" (.ref t1)) (Fc1 : Fld Z h0 a1 "java/lang/String" "coder" "B" (.int 0)) (V1 : Arv Z h0 t1 k1 .byte (oN (lat cs).length) ((lat cs).map Value.int) (.int 0)) (hn : (lat cs).length ≤ 4) (S_FM : SFM Z fm) (r_FM : fm.isRef = true) (hL : ∀ c ∈ cs, ¬ c < 0 ∧ ¬ (255 : Int32) < c) (hnn : cs.length = nn) (hi4 : i < 4) (r4 : ¬ p4 < 0 ∧ ¬ (65535 : Int32) < p4) (heq : i < nn → (cs.getD i 0) = expC p4) :
  MF l mN54 method_5_code 4 (some .boolean) ws (Rm 5 0 0 120) Z #[(.ref a1), (.int (oN i)), (.int (oN nn)), (.int p4)] h0 (Q_rmAtL Z a1 p4 cs cs0 t1 k1 i fm nn h0 n0) := by
 refine MetFree.of_bodySF (plainFor_of_name pn_0) hisR ?_
 intro p e s m args below meth c s₁ Bd hml0 hP hK
 obtain ⟨rfl, hZ, hh⟩ := hP
 have hx := Bd.exec
 have hby := Bd.bytes
 have hml : c.maxLocals = 4 := hml0
 have hown : s.vm.findClass "com/example/tidemark/tidemark/core/ReportLinesPrintablePinLaw" = some m.cls := findClass_of_methodNamed Bd.named
 have X0 : Stand p l e (Rm 5 0 0 120) s m #[(.ref a1), (.int (oN i)), (.int (oN nn)), (.int p4)] below meth c s₁ [] 0 0 := Stand.of_body Bd
 have e0 : s₁.heap = h0 := by rw [← hh, Bd.state]; rfl
 have N0 := Fr.nil n0
 have hn0 : n0 ≤ h0.size := O0.1 ▸ O0.2.1
 have pre0 : ∀ t, SS p e below s₁ m 0 #[vR a1, vI (oN i), vI (oN nn), vI p4] [] t → SE p e below s₁ m #[(.ref a1), (.int (oN i)), (.int (oN nn)), (.int p4)] 4 t := fun t k => castTop (ef_rmAtL m a1 ((oN i)) ((oN nn)) p4) k
 have hl2 : (lat cs).length = cs.length := lat_len cs
 have pre102 : ∀ t, SS p e below s₁ m 2 #[vR a1, vI (oN i), vI (oN nn), vI p4] [(.int (oN nn)), (.int (oN i))] t → SE p e below s₁ m #[(.ref a1), (.int (oN i)), (.int (oN nn)), (.int p4)] 4 t := by
  intro t kt
  refine pre0 _ ?_
  show SS p e below s₁ m 0 #[vR a1, vI (oN i), vI (oN nn), vI p4] [] _
  refine XS.iloadN X0.here hx rfl (hb hby d28_0) rfl ?_
  refine XS.iloadN X0.here hx rfl (hb hby d28_1) rfl ?_
  exact kt
 by_cases hc101 : (oN i) < (oN nn)
 ·skip
  have hi1 : i < nn := (own_lt (by omega) (by omega)).mp hc101
  have hi : i < cs.length := by omega
  obtain ⟨cq103, kq103, q103a, q103b, q103c⟩ := isOf hZ e0 E1
  obtain ⟨_, _, ⟨T103, L103, k103, n103⟩, -, X103, ⟨Lc103, hQ103, l103, y103, z103⟩, st103⟩ := X0.virtualBack hx (y := mN53) (z := mN53) hown (mvT hZ (tw hw 203 rfl)) (mvT hZ (tw hw 204 rfl)) (notFace_of_selects (args := #[]) (mvT hZ (tw hw 206 rfl))) (mvT hZ (tw hw 206 rfl)) (mvT hZ (tw hw 205 rfl)) (by decide) (backOf (W := 0) (rmStcL l Z a0 hw [] a1 cs cs0 t1 k1 i fm h0 n0 O0 S_CS c_CS E1 Fv1 Fc1 V1 hn hi S_FM r_FM hL) hZ (tw hw 207 rfl) (tw hw 8 rfl) (by decide) (by decide)) q103a q103c (g := (mkF m 9 #[vR a1, vI (oN i), vI (oN nn), vI p4] [(.int (oN i)), (.ref a1)])) rfl (by rw [hml]; rfl) (Steps.refl _) (argsL := [(.int (oN i))]) (rest := []) (lenOf pd_26 rfl) rfl (wL _) (hb hby d28_9) (fun _ _ => ⟨rfl, e0, (by decide : 0 + 0 ≤ _), (by decide : 0 + 0 ≤ _)⟩)
  dsimp only [Pt.U, Pt.locs, Pt.cells, Pt.slots] at X103 l103 y103 z103 st103 hQ103
  subst l103 y103 z103
  obtain ⟨rfl, N103q, H103⟩ := hQ103
  have N103 := Fr.app N0 N103q
  obtain ⟨_, _, ⟨T104, L104, k104, n104⟩, -, X104, ⟨Lc104, hQ104, l104, y104, z104⟩, st104⟩ := Jvm.LawKit.callS X103 hx (y := mN51) hown (mvT hZ (tw hw 217 rfl)) (mvT hZ (tw hw 218 rfl)) (mvT hZ (tw hw 3 rfl)) (mvT hZ (tw hw 219 rfl)) (by decide) (backOf (W := 1) (rmExp l Z a0 hw [] p4  h0 n0 O0 r4) hZ (tw hw 219 rfl) (tw hw 3 rfl) (by decide) (by decide)) (g := (mkF m 13 #[vR a1, vI (oN i), vI (oN nn), vI p4] [(.int p4), (.int (cs.getD i 0))])) rfl (by rw [hml]; rfl) (argsL := [(.int p4)]) (rest := [(.int (cs.getD i 0))]) (lenOf pd_32 rfl) rfl (wL _) (hb hby d28_13) (fun _ _ => ⟨rfl, H103, (by decide : 0 + 0 ≤ _), (by decide : 0 + 0 ≤ _)⟩)
  dsimp only [Pt.U, Pt.locs, Pt.cells, Pt.slots] at X104 l104 y104 z104 st104 hQ104
  subst l104 y104 z104
  obtain ⟨rfl, N104q, H104⟩ := hQ104
  have N104 := Fr.app N103 N104q
  obtain ⟨fs, hr, hrun, hended, hW, hsame⟩ := X104.leave (v := some (.int 1)) (nvr Bd.returns)
  refine ⟨_, _, pre102 _ ?_, hrun, hended, _, _, rfl, ?_, ⟨_, rfl⟩, hW, hsame.mono (by decide) (by decide)⟩
  ·skip
   show SS p e below s₁ m 2 #[vR a1, vI (oN i), vI (oN nn), vI p4] [(.int (oN nn)), (.int (oN i))] _
   refine XS.icmpYes X0.here hx rfl (pc0 := 2) (pc' := 7) rfl (hb hby d28_2) rfl (tlt hc101).1 (by decide) (by decide) ?_
   refine XS.aloadN X0.here hx rfl (hb hby d28_7) rfl rfl ?_
   refine XS.iloadN X0.here hx rfl (hb hby d28_8) rfl ?_
   show SS p e below s₁ m 9 #[vR a1, vI (oN i), vI (oN nn), vI p4] [(.int (oN i)), (.ref a1)] _
   refine st103.trans ?_
   refine XS.iloadN X103.here hx rfl (hb hby d28_12) rfl ?_
   show SS p e below T103 m 13 #[vR a1, vI (oN i), vI (oN nn), vI p4] [(.int p4), (.int (cs.getD i 0))] _
   refine st104 _ ?_
   refine XS.icmpNo X104.here hx rfl (hb hby d28_16) rfl (teq (heq hi1 : (cs.getD i 0) = (expC p4))).2 ?_
   refine XS.iconst X104.here hx rfl (hb hby d28_19) ?_
   refine XS.goto X104.here hx rfl (pc0 := 20) (pc' := 24) rfl (hb hby d28_20) (by decide) (by decide) ?_
   show SS p e below T104 m 24 #[vR a1, vI (oN i), vI (oN nn), vI p4] [(.int 1)] _
   exact retN X104 hx (t := .boolean) Bd.returns (by simp) (hb hby d28_24) hr
  ·show Q_rmAtL Z a1 p4 cs cs0 t1 k1 i fm nn h0 n0 _ T104.heap _
   rw [H104]
   exact ⟨rfl, N104, rfl⟩
 ·skip
  obtain ⟨fs, hr, hrun, hended, hW, hsame⟩ := X0.leave (v := some (.int 1)) (nvr Bd.returns)
  refine ⟨_, _, pre102 _ ?_, hrun, hended, _, _, rfl, ?_, ⟨_, rfl⟩, hW, hsame.mono (by decide) (by decide)⟩
  ·skip
   show SS p e below s₁ m 2 #[vR a1, vI (oN i), vI (oN nn), vI p4] [(.int (oN nn)), (.int (oN i))] _
   refine XS.icmpNo X0.here hx rfl (hb hby d28_2) rfl (flt hc101).1 ?_
   refine XS.iconst X0.here hx rfl (hb hby d28_5) ?_
   show SS p e below s₁ m 6 #[vR a1, vI (oN i), vI (oN nn), vI p4] [(.int 1)] _
   exact retN X0 hx (t := .boolean) Bd.returns (by simp) (hb hby d28_6) hr
  ·show Q_rmAtL Z a1 p4 cs cs0 t1 k1 i fm nn h0 n0 _ s₁.heap _
   rw [e0]
   exact ⟨rfl, N0, rfl⟩
theorem pd_22 : parseMethodDescriptor "(Ljava/lang/String;IIC)Z" = some ⟨[(.object "java/lang/String"), .int, .int, .char], some .boolean⟩ := by decide +kernel
theorem tnTailL {p : Program} {l : Launch} {e : Env} {s : State} {m : MethodId} {args : Array Value} {below : List Frame} {meth : Method} {c : Code} {T0 : State} {locs : List Loc} {Z : State} {a0 : Array Value} {h0 : Heap} {n0 : Nat} (p1 p2 p3 p4 p5 ch2 ch3 ch4 ch5 : Int32) (a10 x : Addr) (cs : List Int32) (cs0 : Int32) (t1 : Addr) (k1 : ClassId) (fm : Value) (nn : Nat)
  (X0 : Stand p l e room_1 s m args below meth c T0 locs 12 400) (hx : p.tables.exec = Jvm.exec) (hZ : Z.Warmed39 s.vm) (hw : HW a0 Z) (hby : c.code = code) (hml : c.maxLocals = 12) (hown : s.vm.findClass "com/example/tidemark/tidemark/core/ReportLinesPrintablePinLaw" = some m.cls) (e0 : T0.heap = h0) (O0 : Old Z n0 h0) (N0 : Fr n0 locs) (S_CS : SCS Z cs0) (c_CS : ¬ (cs0 = (0 : Int32))) (E1 : Exa Z h0 x "java/lang/String") (Fv1 : Fld Z h0 x "java/lang/String" "value" "[B" (.ref t1)) (Fc1 : Fld Z h0 x "java/lang/String" "coder" "B" (.int 0)) (V1 : Arv Z h0 t1 k1 .byte (oN (lat cs).length) ((lat cs).map Value.int) (.int 0)) (hn : (lat cs).length ≤ 4) (S_FM : SFM Z fm) (r_FM : fm.isRef = true) (hL : ∀ c ∈ cs, ¬ c < 0 ∧ ¬ (255 : Int32) < c) (hnn : cs.length = nn) (r2 : ¬ ch2 < 0 ∧ ¬ (65535 : Int32) < ch2) (r3 : ¬ ch3 < 0 ∧ ¬ (65535 : Int32) < ch3) (r4 : ¬ ch4 < 0 ∧ ¬ (65535 : Int32) < ch4) (r5 : ¬ ch5 < 0 ∧ ¬ (65535 : Int32) < ch5) (hq0 : 0 < nn → cs.getD 0 0 = expC ch2) (hq1 : 1 < nn → cs.getD 1 0 = expC ch3) (hq2 : 2 < nn → cs.getD 2 0 = expC ch4) (hq3 : 3 < nn → cs.getD 3 0 = expC ch5) :
  ∃ (T' : State) (h' : Heap) (L' : List Loc), Stand p l e room_1 s m args below meth c T' L' 12 400 ∧ T'.heap = h' ∧ Fr n0 L' ∧ h' = h0 ∧ ∀ target, SS p e below T' m 128 #[vI p1, vI p2, vI p3, vI p4, vI p5, vI (oN nn), vI ch2, vI ch3, vI ch4, vI ch5, vR a10, vR x] [(.int 1)] target → SS p e below T0 m 52 #[vI p1, vI p2, vI p3, vI p4, vI p5, vI (oN nn), vI ch2, vI ch3, vI ch4, vI ch5, vR a10, .unset] [(.ref x)] target := by
 have hn0 : n0 ≤ h0.size := O0.1 ▸ O0.2.1
 have pre0 : ∀ t, SS p e below T0 m 52 #[vI p1, vI p2, vI p3, vI p4, vI p5, vI (oN nn), vI ch2, vI ch3, vI ch4, vI ch5, vR a10, .unset] [(.ref x)] t → SS p e below T0 m 52 #[vI p1, vI p2, vI p3, vI p4, vI p5, vI (oN nn), vI ch2, vI ch3, vI ch4, vI ch5, vR a10, .unset] [(.ref x)] t := fun t k => k
 obtain ⟨cq101, kq101, q101a, q101b, q101c⟩ := isOf hZ e0 E1
 obtain ⟨_, _, ⟨T101, L101, k101, n101⟩, -, X101, ⟨Lc101, hQ101, l101, y101, z101⟩, st101⟩ := X0.virtualBack hx (y := mN12) (z := mN12) hown (mvT hZ (tw hw 150 rfl)) (mvT hZ (tw hw 45 rfl)) (notFace_of_selects (args := #[]) (mvT hZ (tw hw 47 rfl))) (mvT hZ (tw hw 47 rfl)) (mvT hZ (tw hw 46 rfl)) (by decide) (backOf (W := 0) (rmLenL l Z a0 hw [] x (lat cs) t1 k1 cs0 h0 n0 O0 S_CS c_CS E1 Fv1 Fc1 V1 hn) hZ (tw hw 48 rfl) (tw hw 8 rfl) (by decide) (by decide)) q101a q101c (g := (mkF m 61 #[vI p1, vI p2, vI p3, vI p4, vI p5, vI (oN nn), vI ch2, vI ch3, vI ch4, vI ch5, vR a10, vR x] [(.ref x)])) rfl (by rw [hml]; rfl) (Steps.refl _) (argsL := []) (rest := []) (lenOf pd_6 rfl) rfl (wL _) (hb hby at_61) (fun _ _ => ⟨rfl, e0, (by decide : 12 + 0 ≤ _), (by decide : 400 + 0 ≤ _)⟩)
 dsimp only [Pt.U, Pt.locs, Pt.cells, Pt.slots] at X101 l101 y101 z101 st101 hQ101
 subst l101 y101 z101
 obtain ⟨rfl, N101q, H101⟩ := hQ101
 have N101 := Fr.app N0 N101q
 obtain ⟨_, _, ⟨T102, L102, k102, n102⟩, -, X102, ⟨Lc102, hQ102, l102, y102, z102⟩, st102⟩ := Jvm.LawKit.callS X101 hx (y := mN54) hown (mvT hZ (tw hw 151 rfl)) (mvT hZ (tw hw 152 rfl)) (mvT hZ (tw hw 3 rfl)) (mvT hZ (tw hw 153 rfl)) (by decide) (backOf (W := 0) (rmAtL l Z a0 hw [] x ch2 cs cs0 t1 k1 0 fm nn h0 n0 O0 S_CS c_CS E1 Fv1 Fc1 V1 hn S_FM r_FM hL hnn (by decide) r2 hq0) hZ (tw hw 153 rfl) (tw hw 3 rfl) (by decide) (by decide)) (g := (mkF m 78 #[vI p1, vI p2, vI p3, vI p4, vI p5, vI (oN nn), vI ch2, vI ch3, vI ch4, vI ch5, vR a10, vR x] [(.int ch2), (.int (oN nn)), (.int 0), (.ref x)])) rfl (by rw [hml]; rfl) (argsL := [(.ref x), (.int 0), (.int (oN nn)), (.int ch2)]) (rest := []) (lenOf pd_22 rfl) rfl (wL _) (hb hby at_78) (fun _ _ => ⟨rfl, H101, (by decide : 12 + 0 ≤ _), (by decide : 400 + 0 ≤ _)⟩)
 dsimp only [Pt.U, Pt.locs, Pt.cells, Pt.slots] at X102 l102 y102 z102 st102 hQ102
 subst l102 y102 z102
 obtain ⟨rfl, N102q, H102⟩ := hQ102
 have N102 := Fr.app N101 N102q
 obtain ⟨_, _, ⟨T103, L103, k103, n103⟩, -, X103, ⟨Lc103, hQ103, l103, y103, z103⟩, st103⟩ := Jvm.LawKit.callS X102 hx (y := mN54) hown (mvT hZ (tw hw 151 rfl)) (mvT hZ (tw hw 152 rfl)) (mvT hZ (tw hw 3 rfl)) (mvT hZ (tw hw 153 rfl)) (by decide) (backOf (W := 0) (rmAtL l Z a0 hw [] x ch3 cs cs0 t1 k1 1 fm nn h0 n0 O0 S_CS c_CS E1 Fv1 Fc1 V1 hn S_FM r_FM hL hnn (by decide) r3 hq1) hZ (tw hw 153 rfl) (tw hw 3 rfl) (by decide) (by decide)) (g := (mkF m 91 #[vI p1, vI p2, vI p3, vI p4, vI p5, vI (oN nn), vI ch2, vI ch3, vI ch4, vI ch5, vR a10, vR x] [(.int ch3), (.int (oN nn)), (.int 1), (.ref x)])) rfl (by rw [hml]; rfl) (argsL := [(.ref x), (.int 1), (.int (oN nn)), (.int ch3)]) (rest := []) (lenOf pd_22 rfl) rfl (wL _) (hb hby at_91) (fun _ _ => ⟨rfl, H102, (by decide : 12 + 0 ≤ _), (by decide : 400 + 0 ≤ _)⟩)
 dsimp only [Pt.U, Pt.locs, Pt.cells, Pt.slots] at X103 l103 y103 z103 st103 hQ103
 subst l103 y103 z103
 obtain ⟨rfl, N103q, H103⟩ := hQ103
 have N103 := Fr.app N102 N103q
 obtain ⟨_, _, ⟨T104, L104, k104, n104⟩, -, X104, ⟨Lc104, hQ104, l104, y104, z104⟩, st104⟩ := Jvm.LawKit.callS X103 hx (y := mN54) hown (mvT hZ (tw hw 151 rfl)) (mvT hZ (tw hw 152 rfl)) (mvT hZ (tw hw 3 rfl)) (mvT hZ (tw hw 153 rfl)) (by decide) (backOf (W := 0) (rmAtL l Z a0 hw [] x ch4 cs cs0 t1 k1 2 fm nn h0 n0 O0 S_CS c_CS E1 Fv1 Fc1 V1 hn S_FM r_FM hL hnn (by decide) r4 hq2) hZ (tw hw 153 rfl) (tw hw 3 rfl) (by decide) (by decide)) (g := (mkF m 104 #[vI p1, vI p2, vI p3, vI p4, vI p5, vI (oN nn), vI ch2, vI ch3, vI ch4, vI ch5, vR a10, vR x] [(.int ch4), (.int (oN nn)), (.int 2), (.ref x)])) rfl (by rw [hml]; rfl) (argsL := [(.ref x), (.int 2), (.int (oN nn)), (.int ch4)]) (rest := []) (lenOf pd_22 rfl) rfl (wL _) (hb hby at_104) (fun _ _ => ⟨rfl, H103, (by decide : 12 + 0 ≤ _), (by decide : 400 + 0 ≤ _)⟩)
 dsimp only [Pt.U, Pt.locs, Pt.cells, Pt.slots] at X104 l104 y104 z104 st104 hQ104
 subst l104 y104 z104
 obtain ⟨rfl, N104q, H104⟩ := hQ104
 have N104 := Fr.app N103 N104q
 obtain ⟨_, _, ⟨T105, L105, k105, n105⟩, -, X105, ⟨Lc105, hQ105, l105, y105, z105⟩, st105⟩ := Jvm.LawKit.callS X104 hx (y := mN54) hown (mvT hZ (tw hw 151 rfl)) (mvT hZ (tw hw 152 rfl)) (mvT hZ (tw hw 3 rfl)) (mvT hZ (tw hw 153 rfl)) (by decide) (backOf (W := 0) (rmAtL l Z a0 hw [] x ch5 cs cs0 t1 k1 3 fm nn h0 n0 O0 S_CS c_CS E1 Fv1 Fc1 V1 hn S_FM r_FM hL hnn (by decide) r5 hq3) hZ (tw hw 153 rfl) (tw hw 3 rfl) (by decide) (by decide)) (g := (mkF m 117 #[vI p1, vI p2, vI p3, vI p4, vI p5, vI (oN nn), vI ch2, vI ch3, vI ch4, vI ch5, vR a10, vR x] [(.int ch5), (.int (oN nn)), (.int 3), (.ref x)])) rfl (by rw [hml]; rfl) (argsL := [(.ref x), (.int 3), (.int (oN nn)), (.int ch5)]) (rest := []) (lenOf pd_22 rfl) rfl (wL _) (hb hby at_117) (fun _ _ => ⟨rfl, H104, (by decide : 12 + 0 ≤ _), (by decide : 400 + 0 ≤ _)⟩)
 dsimp only [Pt.U, Pt.locs, Pt.cells, Pt.slots] at X105 l105 y105 z105 st105 hQ105
 subst l105 y105 z105
 obtain ⟨rfl, N105q, H105⟩ := hQ105
 have N105 := Fr.app N104 N105q
 refine ⟨T105, h0, _, X105, H105, N105, rfl, fun target kt => pre0 _ ?_⟩
 show SS p e below T0 m 52 #[vI p1, vI p2, vI p3, vI p4, vI p5, vI (oN nn), vI ch2, vI ch3, vI ch4, vI ch5, vR a10, .unset] [(.ref x)] _
 refine XS.astore X0.here hx rfl (hb hby at_52) rfl rfl (l' := #[vI p1, vI p2, vI p3, vI p4, vI p5, vI (oN nn), vI ch2, vI ch3, vI ch4, vI ch5, vR a10, vR x]) rfl ?_
 refine XS.aload X0.here hx rfl (hb hby at_54) rfl rfl ?_
 refine XS.ifnullNo X0.here hx rfl (hb hby at_56) rfl ?_
 refine XS.aload X0.here hx rfl (hb hby at_59) rfl rfl ?_
 show SS p e below T0 m 61 #[vI p1, vI p2, vI p3, vI p4, vI p5, vI (oN nn), vI ch2, vI ch3, vI ch4, vI ch5, vR a10, vR x] [(.ref x)] _
 refine st101.trans ?_
 refine XS.iload X101.here hx rfl (hb hby at_64) rfl ?_
 refine XS.icmpYes X101.here hx rfl (pc0 := 66) (pc' := 71) rfl (hb hby at_66) rfl (teq (by rw [lat_len, hnn] : (oN (lat cs).length) = (oN nn))).1 (by decide) (by decide) ?_
 refine XS.aload X101.here hx rfl (hb hby at_71) rfl rfl ?_
 refine XS.iconst X101.here hx rfl (hb hby at_73) ?_
 refine XS.iload X101.here hx rfl (hb hby at_74) rfl ?_
 refine XS.iload X101.here hx rfl (hb hby at_76) rfl ?_
 show SS p e below T101 m 78 #[vI p1, vI p2, vI p3, vI p4, vI p5, vI (oN nn), vI ch2, vI ch3, vI ch4, vI ch5, vR a10, vR x] [(.int ch2), (.int (oN nn)), (.int 0), (.ref x)] _
 refine st102 _ ?_
 refine XS.ifNo X102.here hx rfl (hb hby at_81) rfl ((if0 _ _).trans (feq (by decide : ¬ ((1 : Int32) = (0 : Int32)))).1) ?_
 refine XS.aload X102.here hx rfl (hb hby at_84) rfl rfl ?_
 refine XS.iconst X102.here hx rfl (hb hby at_86) ?_
 refine XS.iload X102.here hx rfl (hb hby at_87) rfl ?_
 refine XS.iload X102.here hx rfl (hb hby at_89) rfl ?_
 show SS p e below T102 m 91 #[vI p1, vI p2, vI p3, vI p4, vI p5, vI (oN nn), vI ch2, vI ch3, vI ch4, vI ch5, vR a10, vR x] [(.int ch3), (.int (oN nn)), (.int 1), (.ref x)] _
 refine st103 _ ?_
 refine XS.ifNo X103.here hx rfl (hb hby at_94) rfl ((if0 _ _).trans (feq (by decide : ¬ ((1 : Int32) = (0 : Int32)))).1) ?_
 refine XS.aload X103.here hx rfl (hb hby at_97) rfl rfl ?_
 refine XS.iconst X103.here hx rfl (hb hby at_99) ?_
 refine XS.iload X103.here hx rfl (hb hby at_100) rfl ?_
 refine XS.iload X103.here hx rfl (hb hby at_102) rfl ?_
 show SS p e below T103 m 104 #[vI p1, vI p2, vI p3, vI p4, vI p5, vI (oN nn), vI ch2, vI ch3, vI ch4, vI ch5, vR a10, vR x] [(.int ch4), (.int (oN nn)), (.int 2), (.ref x)] _
 refine st104 _ ?_
 refine XS.ifNo X104.here hx rfl (hb hby at_107) rfl ((if0 _ _).trans (feq (by decide : ¬ ((1 : Int32) = (0 : Int32)))).1) ?_
 refine XS.aload X104.here hx rfl (hb hby at_110) rfl rfl ?_
 refine XS.iconst X104.here hx rfl (hb hby at_112) ?_
 refine XS.iload X104.here hx rfl (hb hby at_113) rfl ?_
 refine XS.iload X104.here hx rfl (hb hby at_115) rfl ?_
 show SS p e below T104 m 117 #[vI p1, vI p2, vI p3, vI p4, vI p5, vI (oN nn), vI ch2, vI ch3, vI ch4, vI ch5, vR a10, vR x] [(.int ch5), (.int (oN nn)), (.int 3), (.ref x)] _
 refine st105 _ ?_
 refine XS.ifNo X105.here hx rfl (hb hby at_120) rfl ((if0 _ _).trans (feq (by decide : ¬ ((1 : Int32) = (0 : Int32)))).1) ?_
 refine XS.iconst X105.here hx rfl (hb hby at_123) ?_
 refine XS.goto X105.here hx rfl (pc0 := 124) (pc' := 128) rfl (hb hby at_124) (by decide) (by decide) ?_
 show SS p e below T105 m 128 #[vI p1, vI p2, vI p3, vI p4, vI p5, vI (oN nn), vI ch2, vI ch3, vI ch4, vI ch5, vR a10, vR x] [(.int 1)] _
 exact kt
theorem d50_0 : DK cD55 0 (.iload_n 1) 1 := by decide +kernel
theorem d50_1 : DK cD55 1 (.aload_n 0) 1 := by decide +kernel
theorem d50_2 : DK cD55 2 (.invokestatic 67) 3 := by decide +kernel
theorem d50_5 : DK cD55 5 (.aload_n 0) 1 := by decide +kernel
theorem d50_6 : DK cD55 6 (.iload_n 1) 1 := by decide +kernel
theorem d50_7 : DK cD55 7 (.invokestatic 71) 3 := by decide +kernel
theorem d50_10 : DK cD55 10 (.ireturn) 1 := by decide +kernel
theorem ef_rmXcU (m : MethodId) (y0 : Addr) (y1 : Int32) : entryFrame m #[(.ref y0), (.int y1)] 2 = (mkF m 0 #[vR y0, vI y1] []) := by first | (simp [entryFrame, mkF, argsToLocals, Value.category]; done) | rfl
def Q_rmXcU (Z : State) (a1 : Addr) (cs : List Int32) (k1 : ClassId) (i : Nat) (fm : Value) (h0 : Heap) (n0 : Nat) (v : Option Value) (h : Heap) (L : List Loc) : Prop := v = some (.int (cs.getD i 0)) ∧ Fr n0 L ∧ h = h0
theorem rmXcU (l : Launch) (Z : State) (a0 : Array Value) (hw : HW a0 Z) (ws : List Jvm.Cond) (a1 : Addr) (cs : List Int32) (k1 : ClassId) (i : Nat) (fm : Value) (h0 : Heap) (n0 : Nat) (O0 : Old Z n0 h0) (V1 : Arv Z h0 a1 k1 .byte (oN (2 * cs.length)) (u16 cs) (.int 0)) (hn : cs.length ≤ 4) (hi : i < cs.length) (S_FM : SFM Z fm) (r_FM : fm.isRef = true) (hcs : ∀ c ∈ cs, ¬ c < 0 ∧ ¬ (65535 : Int32) < c) (S_AD : SAD Z) (S_HI : SHI Z) (S_LO : SLO Z) :
  MF l mN55 jdk_52_method_83_code 2 (some .char) ws (Rm 3 0 0 60) Z #[(.ref a1), (.int (oN i))] h0 (Q_rmXcU Z a1 cs k1 i fm h0 n0) := by
 refine MetFree.of_bodySF (plainFor_of_name pn_29) hisR ?_
 intro p e s m args below meth c s₁ Bd hml0 hP hK
 obtain ⟨rfl, hZ, hh⟩ := hP
 have hx := Bd.exec
 have hby := Bd.bytes
 have hml : c.maxLocals = 2 := hml0
 have hown : s.vm.findClass "java/lang/StringUTF16" = some m.cls := findClass_of_methodNamed Bd.named
 have X0 : Stand p l e (Rm 3 0 0 60) s m #[(.ref a1), (.int (oN i))] below meth c s₁ [] 0 0 := Stand.of_body Bd
 have e0 : s₁.heap = h0 := by rw [← hh, Bd.state]; rfl
 have N0 := Fr.nil n0
 have hn0 : n0 ≤ h0.size := O0.1 ▸ O0.2.1
 have pre0 : ∀ t, SS p e below s₁ m 0 #[vR a1, vI (oN i)] [] t → SE p e below s₁ m #[(.ref a1), (.int (oN i))] 2 t := fun t k => castTop (ef_rmXcU m a1 ((oN i))) k
 obtain ⟨_, _, ⟨T101, L101, k101, n101⟩, -, X101, ⟨Lc101, hQ101, l101, y101, z101⟩, st101⟩ := Jvm.LawKit.callS X0 hx (y := mN33) hown (mvT hZ (tw hw 246 rfl)) (mvT hZ (tw hw 247 rfl)) (mvT hZ (tw hw 156 rfl)) (mvT hZ (tw hw 248 rfl)) (by decide) (backOf (W := 0) (rmUci l Z a0 hw [] a1 i cs.length k1 (u16 cs) fm h0 n0 O0 S_FM r_FM V1 (by omega) (by omega)) hZ (tw hw 248 rfl) (tw hw 156 rfl) (by decide) (by decide)) (g := (mkF m 2 #[vR a1, vI (oN i)] [(.ref a1), (.int (oN i))])) rfl (by rw [hml]; rfl) (argsL := [(.int (oN i)), (.ref a1)]) (rest := []) (lenOf pd_36 rfl) rfl (wL _) (hb hby d50_2) (fun _ _ => ⟨rfl, e0, (by decide : 0 + 0 ≤ _), (by decide : 0 + 0 ≤ _)⟩)
 dsimp only [Pt.U, Pt.locs, Pt.cells, Pt.slots] at X101 l101 y101 z101 st101 hQ101
 subst l101 y101 z101
 obtain ⟨rfl, N101q, H101⟩ := hQ101
 have N101 := Fr.app N0 N101q
 obtain ⟨_, _, ⟨T102, L102, k102, n102⟩, -, X102, ⟨Lc102, hQ102, l102, y102, z102⟩, st102⟩ := Jvm.LawKit.callS X101 hx (y := mN0) hown (mvT hZ (tw hw 236 rfl)) (mvT hZ (tw hw 237 rfl)) (mvT hZ (tw hw 156 rfl)) (mvT hZ (tw hw 238 rfl)) (by decide) (backOf (W := 0) (rmGetChar l Z a0 hw [] a1 i k1 (oN (2 * cs.length)) (u16 cs) ((cs.getD i 0).toInt8.toInt32) (((cs.getD i 0) >>> ((8 : Int32) &&& 31)).toInt8.toInt32) h0 n0 O0 S_AD S_HI S_LO V1 (by omega) ((own_lt (by omega) (by omega)).mpr (by omega)) ((own_lt (by omega) (by omega)).mpr (by omega)) (u16_get cs hi).1 (u16_get cs hi).2) hZ (tw hw 238 rfl) (tw hw 156 rfl) (by decide) (by decide)) (g := (mkF m 7 #[vR a1, vI (oN i)] [(.int (oN i)), (.ref a1)])) rfl (by rw [hml]; rfl) (argsL := [(.ref a1), (.int (oN i))]) (rest := []) (lenOf pd_31 rfl) rfl (wL _) (hb hby d50_7) (fun _ _ => ⟨rfl, H101, (by decide : 0 + 0 ≤ _), (by decide : 0 + 0 ≤ _)⟩)
 dsimp only [Pt.U, Pt.locs, Pt.cells, Pt.slots] at X102 l102 y102 z102 st102 hQ102
 subst l102 y102 z102
 obtain ⟨rfl, N102q, H102⟩ := hQ102
 have N102 := Fr.app N101 N102q
 have hr103 : (StrChars.pairCh (StrChars.lo8 (cs.getD i 0)) (StrChars.hi8 (cs.getD i 0))) = (cs.getD i 0) := StrChars.pair_says (own_rng hcs hi).1 (own_rng hcs hi).2
 obtain ⟨fs, hr, hrun, hended, hW, hsame⟩ := X102.leave (v := some (.int (nar .char (cs.getD i 0)))) (nvr Bd.returns)
 refine ⟨_, _, pre0 _ ?_, hrun, hended, _, _, rfl, ?_, ⟨_, rfl⟩, hW, hsame.mono (by decide) (by decide)⟩
 ·skip
  show SS p e below s₁ m 0 #[vR a1, vI (oN i)] [] _
  refine XS.iloadN X0.here hx rfl (hb hby d50_0) rfl ?_
  refine XS.aloadN X0.here hx rfl (hb hby d50_1) rfl rfl ?_
  show SS p e below s₁ m 2 #[vR a1, vI (oN i)] [(.ref a1), (.int (oN i))] _
  refine st101 _ ?_
  refine XS.aloadN X101.here hx rfl (hb hby d50_5) rfl rfl ?_
  refine XS.iloadN X101.here hx rfl (hb hby d50_6) rfl ?_
  show SS p e below T101 m 7 #[vR a1, vI (oN i)] [(.int (oN i)), (.ref a1)] _
  refine st102 _ ?_
  show SS p e below T102 m 10 #[vR a1, vI (oN i)] [(.int (StrChars.pairCh (StrChars.lo8 (cs.getD i 0)) (StrChars.hi8 (cs.getD i 0))))] _
  rw [hr103]
  show SS p e below T102 m 10 #[vR a1, vI (oN i)] [(.int (cs.getD i 0))] _
  exact retN X102 hx (t := .char) Bd.returns (by simp) (hb hby d50_10) hr
 ·show Q_rmXcU Z a1 cs k1 i fm h0 n0 _ T102.heap _
  rw [H102]
  exact ⟨congrArg (fun z => some (Value.int z)) (own_nc (hcs _ (own_getmem hi))), N102, rfl⟩
theorem d41_16 : DK cD53 16 (.aload_n 0) 1 := by decide +kernel
theorem d41_17 : DK cD53 17 (.getfield 9) 3 := by decide +kernel
theorem d41_20 : DK cD53 20 (.iload_n 1) 1 := by decide +kernel
theorem d41_21 : DK cD53 21 (.invokestatic 498) 3 := by decide +kernel
theorem d41_24 : DK cD53 24 (.ireturn) 1 := by decide +kernel
theorem ef_rmStcU (m : MethodId) (y0 : Addr) (y1 : Int32) : entryFrame m #[(.ref y0), (.int y1)] 2 = (mkF m 0 #[vR y0, vI y1] []) := by first | (simp [entryFrame, mkF, argsToLocals, Value.category]; done) | rfl
def Q_rmStcU (Z : State) (a1 : Addr) (cs : List Int32) (cs0 : Int32) (t1 : Addr) (k1 : ClassId) (i : Nat) (fm : Value) (h0 : Heap) (n0 : Nat) (v : Option Value) (h : Heap) (L : List Loc) : Prop := v = some (.int (cs.getD i 0)) ∧ Fr n0 L ∧ h = h0
theorem rmStcU (l : Launch) (Z : State) (a0 : Array Value) (hw : HW a0 Z) (ws : List Jvm.Cond) (a1 : Addr) (cs : List Int32) (cs0 : Int32) (t1 : Addr) (k1 : ClassId) (i : Nat) (fm : Value) (h0 : Heap) (n0 : Nat) (O0 : Old Z n0 h0) (S_CS : SCS Z cs0) (c_CS : ¬ (cs0 = (0 : Int32))) (E1 : Exa Z h0 a1 "java/lang/String") (Fv1 : Fld Z h0 a1 "java/lang/String" "value" "[B" (.ref t1)) (Fc1 : Fld Z h0 a1 "java/lang/String" "coder" "B" (.int 1)) (V1 : Arv Z h0 t1 k1 .byte (oN (2 * cs.length)) (u16 cs) (.int 0)) (hn : cs.length ≤ 4) (hi : i < cs.length) (S_FM : SFM Z fm) (r_FM : fm.isRef = true) (hcs : ∀ c ∈ cs, ¬ c < 0 ∧ ¬ (65535 : Int32) < c) (S_AD : SAD Z) (S_HI : SHI Z) (S_LO : SLO Z) :
  MF l mN53 jdk_42_method_56_code 2 (some .char) ws (Rm 4 0 0 90) Z #[(.ref a1), (.int (oN i))] h0 (Q_rmStcU Z a1 cs cs0 t1 k1 i fm h0 n0) := by
 refine MetFree.of_bodySF (plainFor_of_name pn_2) hisR ?_
 intro p e s m args below meth c s₁ Bd hml0 hP hK
 obtain ⟨rfl, hZ, hh⟩ := hP
 have hx := Bd.exec
 have hby := Bd.bytes
 have hml : c.maxLocals = 2 := hml0
 have hown : s.vm.findClass "java/lang/String" = some m.cls := findClass_of_methodNamed Bd.named
 have X0 : Stand p l e (Rm 4 0 0 90) s m #[(.ref a1), (.int (oN i))] below meth c s₁ [] 0 0 := Stand.of_body Bd
 have e0 : s₁.heap = h0 := by rw [← hh, Bd.state]; rfl
 have N0 := Fr.nil n0
 have hn0 : n0 ≤ h0.size := O0.1 ▸ O0.2.1
 have pre0 : ∀ t, SS p e below s₁ m 0 #[vR a1, vI (oN i)] [] t → SE p e below s₁ m #[(.ref a1), (.int (oN i))] 2 t := fun t k => castTop (ef_rmStcU m a1 ((oN i))) k
 obtain ⟨cq101, kq101, q101a, q101b, q101c⟩ := isOf hZ e0 E1
 obtain ⟨_, _, ⟨T101, L101, k101, n101⟩, -, X101, ⟨Lc101, hQ101, l101, y101, z101⟩, st101⟩ := X0.virtualBack hx (y := mN11) (z := mN11) hown (mvT hZ (tw hw 208 rfl)) (mvT hZ (tw hw 209 rfl)) (notFace_of_selects (args := #[]) (mvT hZ (tw hw 211 rfl))) (mvT hZ (tw hw 211 rfl)) (mvT hZ (tw hw 210 rfl)) (by decide) (backOf (W := 0) (rmIsLatU l Z a0 hw [] a1 cs t1 k1 cs0 h0 n0 O0 S_CS c_CS E1 Fv1 Fc1 V1 hn) hZ (tw hw 212 rfl) (tw hw 8 rfl) (by decide) (by decide)) q101a q101c (g := (mkF m 1 #[vR a1, vI (oN i)] [(.ref a1)])) rfl (by rw [hml]; rfl) (Steps.refl _) (argsL := []) (rest := []) (lenOf pd_18 rfl) rfl (wL _) (hb hby d41_1) (fun _ _ => ⟨rfl, e0, (by decide : 0 + 0 ≤ _), (by decide : 0 + 0 ≤ _)⟩)
 dsimp only [Pt.U, Pt.locs, Pt.cells, Pt.slots] at X101 l101 y101 z101 st101 hQ101
 subst l101 y101 z101
 obtain ⟨rfl, N101q, H101⟩ := hQ101
 have N101 := Fr.app N0 N101q
 obtain ⟨T102, X102, e102, st102⟩ := getF X101 hx hZ hown (host := "") (Or.inl (tw hw 25 rfl)) Via.refl H101 Fv1 (g := (mkF m 17 #[vR a1, vI (oN i)] [(.ref a1)])) rfl rfl (hb hby d41_17)
 obtain ⟨_, _, ⟨T103, L103, k103, n103⟩, -, X103, ⟨Lc103, hQ103, l103, y103, z103⟩, st103⟩ := Jvm.LawKit.callS X102 hx (y := mN55) hown (mvT hZ (tw hw 243 rfl)) (mvT hZ (tw hw 244 rfl)) (mvT hZ (tw hw 156 rfl)) (mvT hZ (tw hw 245 rfl)) (by decide) (backOf (W := 0) (rmXcU l Z a0 hw [] t1 cs k1 i fm h0 n0 O0 V1 hn hi S_FM r_FM hcs S_AD S_HI S_LO) hZ (tw hw 245 rfl) (tw hw 156 rfl) (by decide) (by decide)) (g := (mkF m 21 #[vR a1, vI (oN i)] [(.int (oN i)), (.ref t1)])) rfl (by rw [hml]; rfl) (argsL := [(.ref t1), (.int (oN i))]) (rest := []) (lenOf pd_31 rfl) rfl (wL _) (hb hby d41_21) (fun _ _ => ⟨rfl, e102, (by decide : 0 + 0 ≤ _), (by decide : 0 + 0 ≤ _)⟩)
 dsimp only [Pt.U, Pt.locs, Pt.cells, Pt.slots] at X103 l103 y103 z103 st103 hQ103
 subst l103 y103 z103
 obtain ⟨rfl, N103q, H103⟩ := hQ103
 have N103 := Fr.app N101 N103q
 obtain ⟨fs, hr, hrun, hended, hW, hsame⟩ := X103.leave (v := some (.int (nar .char (cs.getD i 0)))) (nvr Bd.returns)
 refine ⟨_, _, pre0 _ ?_, hrun, hended, _, _, rfl, ?_, ⟨_, rfl⟩, hW, hsame.mono (by decide) (by decide)⟩
 ·skip
  show SS p e below s₁ m 0 #[vR a1, vI (oN i)] [] _
  refine XS.aloadN X0.here hx rfl (hb hby d41_0) rfl rfl ?_
  show SS p e below s₁ m 1 #[vR a1, vI (oN i)] [(.ref a1)] _
  refine st101.trans ?_
  refine XS.ifYes X101.here hx rfl (pc0 := 4) (pc' := 16) rfl (hb hby d41_4) rfl ((if0 _ _).trans (teq (by decide : (0 : Int32) = (0 : Int32))).1) (by decide) (by decide) ?_
  refine XS.aloadN X101.here hx rfl (hb hby d41_16) rfl rfl ?_
  show SS p e below T101 m 17 #[vR a1, vI (oN i)] [(.ref a1)] _
  refine st102 _ ?_
  refine XS.iloadN X102.here hx rfl (hb hby d41_20) rfl ?_
  show SS p e below T102 m 21 #[vR a1, vI (oN i)] [(.int (oN i)), (.ref t1)] _
  refine st103 _ ?_
  show SS p e below T103 m 24 #[vR a1, vI (oN i)] [(.int (cs.getD i 0))] _
  exact retN X103 hx (t := .char) Bd.returns (by simp) (hb hby d41_24) hr
 ·show Q_rmStcU Z a1 cs cs0 t1 k1 i fm h0 n0 _ T103.heap _
  rw [H103]
  exact ⟨congrArg (fun z => some (Value.int z)) (own_nc (hcs _ (own_getmem hi))), N103, rfl⟩
theorem ef_rmAtU (m : MethodId) (y0 : Addr) (y1 : Int32) (y2 : Int32) (y3 : Int32) : entryFrame m #[(.ref y0), (.int y1), (.int y2), (.int y3)] 4 = (mkF m 0 #[vR y0, vI y1, vI y2, vI y3] []) := by first | (simp [entryFrame, mkF, argsToLocals, Value.category]; done) | rfl
def Q_rmAtU (Z : State) (a1 : Addr) (p4 : Int32) (cs : List Int32) (cs0 : Int32) (t1 : Addr) (k1 : ClassId) (i : Nat) (fm : Value) (nn : Nat) (h0 : Heap) (n0 : Nat) (v : Option Value) (h : Heap) (L : List Loc) : Prop := v = some (.int 1) ∧ Fr n0 L ∧ h = h0
theorem rmAtU (l : Launch) (Z : State) (a0 : Array Value) (hw : HW a0 Z) (ws : List Jvm.Cond) (a1 : Addr) (p4 : Int32) (cs : List Int32) (cs0 : Int32) (t1 : Addr) (k1 : ClassId) (i : Nat) (fm : Value) (nn : Nat) (h0 : Heap) (n0 : Nat) (O0 : Old Z n0 h0) (S_CS : SCS Z cs0) (c_CS : ¬ (cs0 = (0 : Int32))) (E1 : Exa Z h0 a1 "java/lang/String") (Fv1 : Fld Z h0 a1 "java/lang/String" "value" "[B" (.ref t1)) (Fc1 : Fld Z h0 a1 "java/lang/String" "coder" "B" (.int 1)) (V1 : Arv Z h0 t1 k1 .byte (oN (2 * cs.length)) (u16 cs) (.int 0)) (hn : cs.length ≤ 4) (S_FM : SFM Z fm) (r_FM : fm.isRef = true) (hcs : ∀ c ∈ cs, ¬ c < 0 ∧ ¬ (65535 : Int32) < c) (S_AD : SAD Z) (S_HI : SHI Z) (S_LO : SLO Z) (hnn : cs.length = nn) (hi4 : i < 4) (r4 : ¬ p4 < 0 ∧ ¬ (65535 : Int32) < p4) (heq : i < nn → (cs.getD i 0) = expC p4) :
  MF l mN54 method_5_code 4 (some .boolean) ws (Rm 5 0 0 120) Z #[(.ref a1), (.int (oN i)), (.int (oN nn)), (.int p4)] h0 (Q_rmAtU Z a1 p4 cs cs0 t1 k1 i fm nn h0 n0) := by
 refine MetFree.of_bodySF (plainFor_of_name pn_0) hisR ?_
 intro p e s m args below meth c s₁ Bd hml0 hP hK
 obtain ⟨rfl, hZ, hh⟩ := hP
 have hx := Bd.exec
 have hby := Bd.bytes
 have hml : c.maxLocals = 4 := hml0
 have hown : s.vm.findClass "com/example/tidemark/tidemark/core/ReportLinesPrintablePinLaw" = some m.cls := findClass_of_methodNamed Bd.named
 have X0 : Stand p l e (Rm 5 0 0 120) s m #[(.ref a1), (.int (oN i)), (.int (oN nn)), (.int p4)] below meth c s₁ [] 0 0 := Stand.of_body Bd
 have e0 : s₁.heap = h0 := by rw [← hh, Bd.state]; rfl
 have N0 := Fr.nil n0
 have hn0 : n0 ≤ h0.size := O0.1 ▸ O0.2.1
 have pre0 : ∀ t, SS p e below s₁ m 0 #[vR a1, vI (oN i), vI (oN nn), vI p4] [] t → SE p e below s₁ m #[(.ref a1), (.int (oN i)), (.int (oN nn)), (.int p4)] 4 t := fun t k => castTop (ef_rmAtU m a1 ((oN i)) ((oN nn)) p4) k
 have pre102 : ∀ t, SS p e below s₁ m 2 #[vR a1, vI (oN i), vI (oN nn), vI p4] [(.int (oN nn)), (.int (oN i))] t → SE p e below s₁ m #[(.ref a1), (.int (oN i)), (.int (oN nn)), (.int p4)] 4 t := by
  intro t kt
  refine pre0 _ ?_
  show SS p e below s₁ m 0 #[vR a1, vI (oN i), vI (oN nn), vI p4] [] _
  refine XS.iloadN X0.here hx rfl (hb hby d28_0) rfl ?_
  refine XS.iloadN X0.here hx rfl (hb hby d28_1) rfl ?_
  exact kt
 by_cases hc101 : (oN i) < (oN nn)
 ·skip
  have hi1 : i < nn := (own_lt (by omega) (by omega)).mp hc101
  have hi : i < cs.length := by omega
  obtain ⟨cq103, kq103, q103a, q103b, q103c⟩ := isOf hZ e0 E1
  obtain ⟨_, _, ⟨T103, L103, k103, n103⟩, -, X103, ⟨Lc103, hQ103, l103, y103, z103⟩, st103⟩ := X0.virtualBack hx (y := mN53) (z := mN53) hown (mvT hZ (tw hw 203 rfl)) (mvT hZ (tw hw 204 rfl)) (notFace_of_selects (args := #[]) (mvT hZ (tw hw 206 rfl))) (mvT hZ (tw hw 206 rfl)) (mvT hZ (tw hw 205 rfl)) (by decide) (backOf (W := 0) (rmStcU l Z a0 hw [] a1 cs cs0 t1 k1 i fm h0 n0 O0 S_CS c_CS E1 Fv1 Fc1 V1 hn hi S_FM r_FM hcs S_AD S_HI S_LO) hZ (tw hw 207 rfl) (tw hw 8 rfl) (by decide) (by decide)) q103a q103c (g := (mkF m 9 #[vR a1, vI (oN i), vI (oN nn), vI p4] [(.int (oN i)), (.ref a1)])) rfl (by rw [hml]; rfl) (Steps.refl _) (argsL := [(.int (oN i))]) (rest := []) (lenOf pd_26 rfl) rfl (wL _) (hb hby d28_9) (fun _ _ => ⟨rfl, e0, (by decide : 0 + 0 ≤ _), (by decide : 0 + 0 ≤ _)⟩)
  dsimp only [Pt.U, Pt.locs, Pt.cells, Pt.slots] at X103 l103 y103 z103 st103 hQ103
  subst l103 y103 z103
  obtain ⟨rfl, N103q, H103⟩ := hQ103
  have N103 := Fr.app N0 N103q
  obtain ⟨_, _, ⟨T104, L104, k104, n104⟩, -, X104, ⟨Lc104, hQ104, l104, y104, z104⟩, st104⟩ := Jvm.LawKit.callS X103 hx (y := mN51) hown (mvT hZ (tw hw 217 rfl)) (mvT hZ (tw hw 218 rfl)) (mvT hZ (tw hw 3 rfl)) (mvT hZ (tw hw 219 rfl)) (by decide) (backOf (W := 1) (rmExp l Z a0 hw [] p4  h0 n0 O0 r4) hZ (tw hw 219 rfl) (tw hw 3 rfl) (by decide) (by decide)) (g := (mkF m 13 #[vR a1, vI (oN i), vI (oN nn), vI p4] [(.int p4), (.int (cs.getD i 0))])) rfl (by rw [hml]; rfl) (argsL := [(.int p4)]) (rest := [(.int (cs.getD i 0))]) (lenOf pd_32 rfl) rfl (wL _) (hb hby d28_13) (fun _ _ => ⟨rfl, H103, (by decide : 0 + 0 ≤ _), (by decide : 0 + 0 ≤ _)⟩)
  dsimp only [Pt.U, Pt.locs, Pt.cells, Pt.slots] at X104 l104 y104 z104 st104 hQ104
  subst l104 y104 z104
  obtain ⟨rfl, N104q, H104⟩ := hQ104
  have N104 := Fr.app N103 N104q
  obtain ⟨fs, hr, hrun, hended, hW, hsame⟩ := X104.leave (v := some (.int 1)) (nvr Bd.returns)
  refine ⟨_, _, pre102 _ ?_, hrun, hended, _, _, rfl, ?_, ⟨_, rfl⟩, hW, hsame.mono (by decide) (by decide)⟩
  ·skip
   show SS p e below s₁ m 2 #[vR a1, vI (oN i), vI (oN nn), vI p4] [(.int (oN nn)), (.int (oN i))] _
   refine XS.icmpYes X0.here hx rfl (pc0 := 2) (pc' := 7) rfl (hb hby d28_2) rfl (tlt hc101).1 (by decide) (by decide) ?_
   refine XS.aloadN X0.here hx rfl (hb hby d28_7) rfl rfl ?_
   refine XS.iloadN X0.here hx rfl (hb hby d28_8) rfl ?_
   show SS p e below s₁ m 9 #[vR a1, vI (oN i), vI (oN nn), vI p4] [(.int (oN i)), (.ref a1)] _
   refine st103.trans ?_
   refine XS.iloadN X103.here hx rfl (hb hby d28_12) rfl ?_
   show SS p e below T103 m 13 #[vR a1, vI (oN i), vI (oN nn), vI p4] [(.int p4), (.int (cs.getD i 0))] _
   refine st104 _ ?_
   refine XS.icmpNo X104.here hx rfl (hb hby d28_16) rfl (teq (heq hi1 : (cs.getD i 0) = (expC p4))).2 ?_
   refine XS.iconst X104.here hx rfl (hb hby d28_19) ?_
   refine XS.goto X104.here hx rfl (pc0 := 20) (pc' := 24) rfl (hb hby d28_20) (by decide) (by decide) ?_
   show SS p e below T104 m 24 #[vR a1, vI (oN i), vI (oN nn), vI p4] [(.int 1)] _
   exact retN X104 hx (t := .boolean) Bd.returns (by simp) (hb hby d28_24) hr
  ·show Q_rmAtU Z a1 p4 cs cs0 t1 k1 i fm nn h0 n0 _ T104.heap _
   rw [H104]
   exact ⟨rfl, N104, rfl⟩
 ·skip
  obtain ⟨fs, hr, hrun, hended, hW, hsame⟩ := X0.leave (v := some (.int 1)) (nvr Bd.returns)
  refine ⟨_, _, pre102 _ ?_, hrun, hended, _, _, rfl, ?_, ⟨_, rfl⟩, hW, hsame.mono (by decide) (by decide)⟩
  ·skip
   show SS p e below s₁ m 2 #[vR a1, vI (oN i), vI (oN nn), vI p4] [(.int (oN nn)), (.int (oN i))] _
   refine XS.icmpNo X0.here hx rfl (hb hby d28_2) rfl (flt hc101).1 ?_
   refine XS.iconst X0.here hx rfl (hb hby d28_5) ?_
   show SS p e below s₁ m 6 #[vR a1, vI (oN i), vI (oN nn), vI p4] [(.int 1)] _
   exact retN X0 hx (t := .boolean) Bd.returns (by simp) (hb hby d28_6) hr
  ·show Q_rmAtU Z a1 p4 cs cs0 t1 k1 i fm nn h0 n0 _ s₁.heap _
   rw [e0]
   exact ⟨rfl, N0, rfl⟩
theorem tnTailU {p : Program} {l : Launch} {e : Env} {s : State} {m : MethodId} {args : Array Value} {below : List Frame} {meth : Method} {c : Code} {T0 : State} {locs : List Loc} {Z : State} {a0 : Array Value} {h0 : Heap} {n0 : Nat} (p1 p2 p3 p4 p5 ch2 ch3 ch4 ch5 : Int32) (a10 x : Addr) (cs : List Int32) (cs0 : Int32) (t1 : Addr) (k1 : ClassId) (fm : Value) (nn : Nat)
  (X0 : Stand p l e room_1 s m args below meth c T0 locs 12 400) (hx : p.tables.exec = Jvm.exec) (hZ : Z.Warmed39 s.vm) (hw : HW a0 Z) (hby : c.code = code) (hml : c.maxLocals = 12) (hown : s.vm.findClass "com/example/tidemark/tidemark/core/ReportLinesPrintablePinLaw" = some m.cls) (e0 : T0.heap = h0) (O0 : Old Z n0 h0) (N0 : Fr n0 locs) (S_CS : SCS Z cs0) (c_CS : ¬ (cs0 = (0 : Int32))) (E1 : Exa Z h0 x "java/lang/String") (Fv1 : Fld Z h0 x "java/lang/String" "value" "[B" (.ref t1)) (Fc1 : Fld Z h0 x "java/lang/String" "coder" "B" (.int 1)) (V1 : Arv Z h0 t1 k1 .byte (oN (2 * cs.length)) (u16 cs) (.int 0)) (hn : cs.length ≤ 4) (S_FM : SFM Z fm) (r_FM : fm.isRef = true) (hcs : ∀ c ∈ cs, ¬ c < 0 ∧ ¬ (65535 : Int32) < c) (S_AD : SAD Z) (S_HI : SHI Z) (S_LO : SLO Z) (hnn : cs.length = nn) (r2 : ¬ ch2 < 0 ∧ ¬ (65535 : Int32) < ch2) (r3 : ¬ ch3 < 0 ∧ ¬ (65535 : Int32) < ch3) (r4 : ¬ ch4 < 0 ∧ ¬ (65535 : Int32) < ch4) (r5 : ¬ ch5 < 0 ∧ ¬ (65535 : Int32) < ch5) (hq0 : 0 < nn → cs.getD 0 0 = expC ch2) (hq1 : 1 < nn → cs.getD 1 0 = expC ch3) (hq2 : 2 < nn → cs.getD 2 0 = expC ch4) (hq3 : 3 < nn → cs.getD 3 0 = expC ch5) :
  ∃ (T' : State) (h' : Heap) (L' : List Loc), Stand p l e room_1 s m args below meth c T' L' 12 400 ∧ T'.heap = h' ∧ Fr n0 L' ∧ h' = h0 ∧ ∀ target, SS p e below T' m 128 #[vI p1, vI p2, vI p3, vI p4, vI p5, vI (oN nn), vI ch2, vI ch3, vI ch4, vI ch5, vR a10, vR x] [(.int 1)] target → SS p e below T0 m 52 #[vI p1, vI p2, vI p3, vI p4, vI p5, vI (oN nn), vI ch2, vI ch3, vI ch4, vI ch5, vR a10, .unset] [(.ref x)] target := by
 have hn0 : n0 ≤ h0.size := O0.1 ▸ O0.2.1
 have pre0 : ∀ t, SS p e below T0 m 52 #[vI p1, vI p2, vI p3, vI p4, vI p5, vI (oN nn), vI ch2, vI ch3, vI ch4, vI ch5, vR a10, .unset] [(.ref x)] t → SS p e below T0 m 52 #[vI p1, vI p2, vI p3, vI p4, vI p5, vI (oN nn), vI ch2, vI ch3, vI ch4, vI ch5, vR a10, .unset] [(.ref x)] t := fun t k => k
 obtain ⟨cq101, kq101, q101a, q101b, q101c⟩ := isOf hZ e0 E1
 obtain ⟨_, _, ⟨T101, L101, k101, n101⟩, -, X101, ⟨Lc101, hQ101, l101, y101, z101⟩, st101⟩ := X0.virtualBack hx (y := mN12) (z := mN12) hown (mvT hZ (tw hw 150 rfl)) (mvT hZ (tw hw 45 rfl)) (notFace_of_selects (args := #[]) (mvT hZ (tw hw 47 rfl))) (mvT hZ (tw hw 47 rfl)) (mvT hZ (tw hw 46 rfl)) (by decide) (backOf (W := 0) (rmLenU l Z a0 hw [] x cs t1 k1 cs0 h0 n0 O0 S_CS c_CS E1 Fv1 Fc1 V1 hn) hZ (tw hw 48 rfl) (tw hw 8 rfl) (by decide) (by decide)) q101a q101c (g := (mkF m 61 #[vI p1, vI p2, vI p3, vI p4, vI p5, vI (oN nn), vI ch2, vI ch3, vI ch4, vI ch5, vR a10, vR x] [(.ref x)])) rfl (by rw [hml]; rfl) (Steps.refl _) (argsL := []) (rest := []) (lenOf pd_6 rfl) rfl (wL _) (hb hby at_61) (fun _ _ => ⟨rfl, e0, (by decide : 12 + 0 ≤ _), (by decide : 400 + 0 ≤ _)⟩)
 dsimp only [Pt.U, Pt.locs, Pt.cells, Pt.slots] at X101 l101 y101 z101 st101 hQ101
 subst l101 y101 z101
 obtain ⟨rfl, N101q, H101⟩ := hQ101
 have N101 := Fr.app N0 N101q
 obtain ⟨_, _, ⟨T102, L102, k102, n102⟩, -, X102, ⟨Lc102, hQ102, l102, y102, z102⟩, st102⟩ := Jvm.LawKit.callS X101 hx (y := mN54) hown (mvT hZ (tw hw 151 rfl)) (mvT hZ (tw hw 152 rfl)) (mvT hZ (tw hw 3 rfl)) (mvT hZ (tw hw 153 rfl)) (by decide) (backOf (W := 0) (rmAtU l Z a0 hw [] x ch2 cs cs0 t1 k1 0 fm nn h0 n0 O0 S_CS c_CS E1 Fv1 Fc1 V1 hn S_FM r_FM hcs S_AD S_HI S_LO hnn (by decide) r2 hq0) hZ (tw hw 153 rfl) (tw hw 3 rfl) (by decide) (by decide)) (g := (mkF m 78 #[vI p1, vI p2, vI p3, vI p4, vI p5, vI (oN nn), vI ch2, vI ch3, vI ch4, vI ch5, vR a10, vR x] [(.int ch2), (.int (oN nn)), (.int 0), (.ref x)])) rfl (by rw [hml]; rfl) (argsL := [(.ref x), (.int 0), (.int (oN nn)), (.int ch2)]) (rest := []) (lenOf pd_22 rfl) rfl (wL _) (hb hby at_78) (fun _ _ => ⟨rfl, H101, (by decide : 12 + 0 ≤ _), (by decide : 400 + 0 ≤ _)⟩)
 dsimp only [Pt.U, Pt.locs, Pt.cells, Pt.slots] at X102 l102 y102 z102 st102 hQ102
 subst l102 y102 z102
 obtain ⟨rfl, N102q, H102⟩ := hQ102
 have N102 := Fr.app N101 N102q
 obtain ⟨_, _, ⟨T103, L103, k103, n103⟩, -, X103, ⟨Lc103, hQ103, l103, y103, z103⟩, st103⟩ := Jvm.LawKit.callS X102 hx (y := mN54) hown (mvT hZ (tw hw 151 rfl)) (mvT hZ (tw hw 152 rfl)) (mvT hZ (tw hw 3 rfl)) (mvT hZ (tw hw 153 rfl)) (by decide) (backOf (W := 0) (rmAtU l Z a0 hw [] x ch3 cs cs0 t1 k1 1 fm nn h0 n0 O0 S_CS c_CS E1 Fv1 Fc1 V1 hn S_FM r_FM hcs S_AD S_HI S_LO hnn (by decide) r3 hq1) hZ (tw hw 153 rfl) (tw hw 3 rfl) (by decide) (by decide)) (g := (mkF m 91 #[vI p1, vI p2, vI p3, vI p4, vI p5, vI (oN nn), vI ch2, vI ch3, vI ch4, vI ch5, vR a10, vR x] [(.int ch3), (.int (oN nn)), (.int 1), (.ref x)])) rfl (by rw [hml]; rfl) (argsL := [(.ref x), (.int 1), (.int (oN nn)), (.int ch3)]) (rest := []) (lenOf pd_22 rfl) rfl (wL _) (hb hby at_91) (fun _ _ => ⟨rfl, H102, (by decide : 12 + 0 ≤ _), (by decide : 400 + 0 ≤ _)⟩)
 dsimp only [Pt.U, Pt.locs, Pt.cells, Pt.slots] at X103 l103 y103 z103 st103 hQ103
 subst l103 y103 z103
 obtain ⟨rfl, N103q, H103⟩ := hQ103
 have N103 := Fr.app N102 N103q
 obtain ⟨_, _, ⟨T104, L104, k104, n104⟩, -, X104, ⟨Lc104, hQ104, l104, y104, z104⟩, st104⟩ := Jvm.LawKit.callS X103 hx (y := mN54) hown (mvT hZ (tw hw 151 rfl)) (mvT hZ (tw hw 152 rfl)) (mvT hZ (tw hw 3 rfl)) (mvT hZ (tw hw 153 rfl)) (by decide) (backOf (W := 0) (rmAtU l Z a0 hw [] x ch4 cs cs0 t1 k1 2 fm nn h0 n0 O0 S_CS c_CS E1 Fv1 Fc1 V1 hn S_FM r_FM hcs S_AD S_HI S_LO hnn (by decide) r4 hq2) hZ (tw hw 153 rfl) (tw hw 3 rfl) (by decide) (by decide)) (g := (mkF m 104 #[vI p1, vI p2, vI p3, vI p4, vI p5, vI (oN nn), vI ch2, vI ch3, vI ch4, vI ch5, vR a10, vR x] [(.int ch4), (.int (oN nn)), (.int 2), (.ref x)])) rfl (by rw [hml]; rfl) (argsL := [(.ref x), (.int 2), (.int (oN nn)), (.int ch4)]) (rest := []) (lenOf pd_22 rfl) rfl (wL _) (hb hby at_104) (fun _ _ => ⟨rfl, H103, (by decide : 12 + 0 ≤ _), (by decide : 400 + 0 ≤ _)⟩)
 dsimp only [Pt.U, Pt.locs, Pt.cells, Pt.slots] at X104 l104 y104 z104 st104 hQ104
 subst l104 y104 z104
 obtain ⟨rfl, N104q, H104⟩ := hQ104
 have N104 := Fr.app N103 N104q
 obtain ⟨_, _, ⟨T105, L105, k105, n105⟩, -, X105, ⟨Lc105, hQ105, l105, y105, z105⟩, st105⟩ := Jvm.LawKit.callS X104 hx (y := mN54) hown (mvT hZ (tw hw 151 rfl)) (mvT hZ (tw hw 152 rfl)) (mvT hZ (tw hw 3 rfl)) (mvT hZ (tw hw 153 rfl)) (by decide) (backOf (W := 0) (rmAtU l Z a0 hw [] x ch5 cs cs0 t1 k1 3 fm nn h0 n0 O0 S_CS c_CS E1 Fv1 Fc1 V1 hn S_FM r_FM hcs S_AD S_HI S_LO hnn (by decide) r5 hq3) hZ (tw hw 153 rfl) (tw hw 3 rfl) (by decide) (by decide)) (g := (mkF m 117 #[vI p1, vI p2, vI p3, vI p4, vI p5, vI (oN nn), vI ch2, vI ch3, vI ch4, vI ch5, vR a10, vR x] [(.int ch5), (.int (oN nn)), (.int 3), (.ref x)])) rfl (by rw [hml]; rfl) (argsL := [(.ref x), (.int 3), (.int (oN nn)), (.int ch5)]) (rest := []) (lenOf pd_22 rfl) rfl (wL _) (hb hby at_117) (fun _ _ => ⟨rfl, H104, (by decide : 12 + 0 ≤ _), (by decide : 400 + 0 ≤ _)⟩)
 dsimp only [Pt.U, Pt.locs, Pt.cells, Pt.slots] at X105 l105 y105 z105 st105 hQ105
 subst l105 y105 z105
 obtain ⟨rfl, N105q, H105⟩ := hQ105
 have N105 := Fr.app N104 N105q
 refine ⟨T105, h0, _, X105, H105, N105, rfl, fun target kt => pre0 _ ?_⟩
 show SS p e below T0 m 52 #[vI p1, vI p2, vI p3, vI p4, vI p5, vI (oN nn), vI ch2, vI ch3, vI ch4, vI ch5, vR a10, .unset] [(.ref x)] _
 refine XS.astore X0.here hx rfl (hb hby at_52) rfl rfl (l' := #[vI p1, vI p2, vI p3, vI p4, vI p5, vI (oN nn), vI ch2, vI ch3, vI ch4, vI ch5, vR a10, vR x]) rfl ?_
 refine XS.aload X0.here hx rfl (hb hby at_54) rfl rfl ?_
 refine XS.ifnullNo X0.here hx rfl (hb hby at_56) rfl ?_
 refine XS.aload X0.here hx rfl (hb hby at_59) rfl rfl ?_
 show SS p e below T0 m 61 #[vI p1, vI p2, vI p3, vI p4, vI p5, vI (oN nn), vI ch2, vI ch3, vI ch4, vI ch5, vR a10, vR x] [(.ref x)] _
 refine st101.trans ?_
 refine XS.iload X101.here hx rfl (hb hby at_64) rfl ?_
 refine XS.icmpYes X101.here hx rfl (pc0 := 66) (pc' := 71) rfl (hb hby at_66) rfl (teq (by rw [hnn] : (oN cs.length) = (oN nn))).1 (by decide) (by decide) ?_
 refine XS.aload X101.here hx rfl (hb hby at_71) rfl rfl ?_
 refine XS.iconst X101.here hx rfl (hb hby at_73) ?_
 refine XS.iload X101.here hx rfl (hb hby at_74) rfl ?_
 refine XS.iload X101.here hx rfl (hb hby at_76) rfl ?_
 show SS p e below T101 m 78 #[vI p1, vI p2, vI p3, vI p4, vI p5, vI (oN nn), vI ch2, vI ch3, vI ch4, vI ch5, vR a10, vR x] [(.int ch2), (.int (oN nn)), (.int 0), (.ref x)] _
 refine st102 _ ?_
 refine XS.ifNo X102.here hx rfl (hb hby at_81) rfl ((if0 _ _).trans (feq (by decide : ¬ ((1 : Int32) = (0 : Int32)))).1) ?_
 refine XS.aload X102.here hx rfl (hb hby at_84) rfl rfl ?_
 refine XS.iconst X102.here hx rfl (hb hby at_86) ?_
 refine XS.iload X102.here hx rfl (hb hby at_87) rfl ?_
 refine XS.iload X102.here hx rfl (hb hby at_89) rfl ?_
 show SS p e below T102 m 91 #[vI p1, vI p2, vI p3, vI p4, vI p5, vI (oN nn), vI ch2, vI ch3, vI ch4, vI ch5, vR a10, vR x] [(.int ch3), (.int (oN nn)), (.int 1), (.ref x)] _
 refine st103 _ ?_
 refine XS.ifNo X103.here hx rfl (hb hby at_94) rfl ((if0 _ _).trans (feq (by decide : ¬ ((1 : Int32) = (0 : Int32)))).1) ?_
 refine XS.aload X103.here hx rfl (hb hby at_97) rfl rfl ?_
 refine XS.iconst X103.here hx rfl (hb hby at_99) ?_
 refine XS.iload X103.here hx rfl (hb hby at_100) rfl ?_
 refine XS.iload X103.here hx rfl (hb hby at_102) rfl ?_
 show SS p e below T103 m 104 #[vI p1, vI p2, vI p3, vI p4, vI p5, vI (oN nn), vI ch2, vI ch3, vI ch4, vI ch5, vR a10, vR x] [(.int ch4), (.int (oN nn)), (.int 2), (.ref x)] _
 refine st104 _ ?_
 refine XS.ifNo X104.here hx rfl (hb hby at_107) rfl ((if0 _ _).trans (feq (by decide : ¬ ((1 : Int32) = (0 : Int32)))).1) ?_
 refine XS.aload X104.here hx rfl (hb hby at_110) rfl rfl ?_
 refine XS.iconst X104.here hx rfl (hb hby at_112) ?_
 refine XS.iload X104.here hx rfl (hb hby at_113) rfl ?_
 refine XS.iload X104.here hx rfl (hb hby at_115) rfl ?_
 show SS p e below T104 m 117 #[vI p1, vI p2, vI p3, vI p4, vI p5, vI (oN nn), vI ch2, vI ch3, vI ch4, vI ch5, vR a10, vR x] [(.int ch5), (.int (oN nn)), (.int 3), (.ref x)] _
 refine st105 _ ?_
 refine XS.ifNo X105.here hx rfl (hb hby at_120) rfl ((if0 _ _).trans (feq (by decide : ¬ ((1 : Int32) = (0 : Int32)))).1) ?_
 refine XS.iconst X105.here hx rfl (hb hby at_123) ?_
 refine XS.goto X105.here hx rfl (pc0 := 124) (pc' := 128) rfl (hb hby at_124) (by decide) (by decide) ?_
 show SS p e below T105 m 128 #[vI p1, vI p2, vI p3, vI p4, vI p5, vI (oN nn), vI ch2, vI ch3, vI ch4, vI ch5, vR a10, vR x] [(.int 1)] _
 exact kt
theorem d1_0 : DK cD56 0 (.iload_n 0) 1 := by decide +kernel
theorem d1_1 : DK cD56 1 (.ifCond .ne 7) 3 := by decide +kernel
theorem d1_4 : DK cD56 4 (.iconst 0) 1 := by decide +kernel
theorem d1_5 : DK cD56 5 (.newarray .char) 2 := by decide +kernel
theorem d1_7 : DK cD56 7 (.areturn) 1 := by decide +kernel
theorem ef_rmMake0 (m : MethodId) (y0 : Int32) (y1 : Int32) (y2 : Int32) (y3 : Int32) (y4 : Int32) : entryFrame m #[(.int y0), (.int y1), (.int y2), (.int y3), (.int y4)] 5 = (mkF m 0 #[vI y0, vI y1, vI y2, vI y3, vI y4] []) := by first | (simp [entryFrame, mkF, argsToLocals, Value.category]; done) | rfl
def Q_rmMake0 (Z : State) (p1 : Int32) (p2 : Int32) (p3 : Int32) (p4 : Int32) (p5 : Int32) (h0 : Heap) (n0 : Nat) (v : Option Value) (h : Heap) (L : List Loc) : Prop := ∃ (b : Addr) (kb : ClassId), v = some (.ref b) ∧ Fr n0 L ∧ Keep h0 h [] ∧ h0.size ≤ b ∧ Arv Z h b kb .char (0 : Int32) [] (.int 0)
theorem rmMake0 (l : Launch) (Z : State) (a0 : Array Value) (hw : HW a0 Z) (ws : List Jvm.Cond) (p1 : Int32) (p2 : Int32) (p3 : Int32) (p4 : Int32) (p5 : Int32) (h0 : Heap) (n0 : Nat) (O0 : Old Z n0 h0) (hm : p1 = (0 : Int32)) :
  MF l mN56 method_3_code 5 (some (.array .char)) ws (Rm 0 1 0 0) Z #[(.int p1), (.int p2), (.int p3), (.int p4), (.int p5)] h0 (Q_rmMake0 Z p1 p2 p3 p4 p5 h0 n0) := by
 refine MetFree.of_bodySF (plainFor_of_name pn_0) hisR ?_
 intro p e s m args below meth c s₁ Bd hml0 hP hK
 obtain ⟨rfl, hZ, hh⟩ := hP
 have hx := Bd.exec
 have hby := Bd.bytes
 have hml : c.maxLocals = 5 := hml0
 have hown : s.vm.findClass "com/example/tidemark/tidemark/core/ReportLinesPrintablePinLaw" = some m.cls := findClass_of_methodNamed Bd.named
 have X0 : Stand p l e (Rm 0 1 0 0) s m #[(.int p1), (.int p2), (.int p3), (.int p4), (.int p5)] below meth c s₁ [] 0 0 := Stand.of_body Bd
 have e0 : s₁.heap = h0 := by rw [← hh, Bd.state]; rfl
 have N0 := Fr.nil n0
 have hn0 : n0 ≤ h0.size := O0.1 ▸ O0.2.1
 have pre0 : ∀ t, SS p e below s₁ m 0 #[vI p1, vI p2, vI p3, vI p4, vI p5] [] t → SE p e below s₁ m #[(.int p1), (.int p2), (.int p3), (.int p4), (.int p5)] 5 t := fun t k => castTop (ef_rmMake0 m p1 p2 p3 p4 p5) k
 obtain ⟨T101, h101, k101, X101, e101, E101, A101, st101⟩ := newP X0 hx hZ (tw hw 5 rfl) e0 (g := (mkF m 5 #[vI p1, vI p2, vI p3, vI p4, vI p5] [(.int 0)])) rfl (hb hby d1_5) rfl (by decide) (cap := 0) (by decide) (by decide) (by decide) (by decide)
 obtain ⟨b101, g101⟩ : ∃ z, z = h0.size := ⟨_, rfl⟩
 rw [← g101] at A101 st101
 have V101 : Arv Z h101 b101 k101 .char (0 : Int32) [] (.int 0) := (Arv.new A101 (by decide)).pad (pad_rep [] (.int 0) 0)
 have lt101 : @LT.lt Nat _ b101 h101.size := V101.lt
 have K101 : Keep h0 h101 [] := (Keep.refl _ _).ext E101
 have sz1_K101 := K101.1
 have KC102 : Keep h0 h101 [] := (Keep.refl h0 []).trans K101 (all0)
 obtain ⟨fs, hr, hrun, hended, hW, hsame⟩ := X101.leave (v := some (.ref b101)) (nvr Bd.returns)
 refine ⟨_, _, pre0 _ ?_, hrun, hended, _, _, rfl, ?_, ⟨_, rfl⟩, hW, hsame.mono (by decide) (by decide)⟩
 ·skip
  show SS p e below s₁ m 0 #[vI p1, vI p2, vI p3, vI p4, vI p5] [] _
  refine XS.iloadN X0.here hx rfl (hb hby d1_0) rfl ?_
  refine XS.ifNo X0.here hx rfl (hb hby d1_1) rfl ((if0 _ _).trans (teq (hm : p1 = (0 : Int32))).2) ?_
  refine XS.iconst X0.here hx rfl (hb hby d1_4) ?_
  show SS p e below s₁ m 5 #[vI p1, vI p2, vI p3, vI p4, vI p5] [(.int 0)] _
  refine st101 _ ?_
  show SS p e below T101 m 7 #[vI p1, vI p2, vI p3, vI p4, vI p5] [(.ref b101)] _
  exact X101.areturnOut hx rfl Bd.returns rfl (hb hby d1_7) hr
 ·show Q_rmMake0 Z p1 p2 p3 p4 p5 h0 n0 _ T101.heap _
  rw [e101]
  exact ⟨_, _, rfl, N0, KC102, (by omega), V101⟩
theorem d1_8 : DK cD56 8 (.iload_n 0) 1 := by decide +kernel
theorem d1_9 : DK cD56 9 (.iconst 1) 1 := by decide +kernel
theorem d1_10 : DK cD56 10 (.if_icmp .ne 11) 3 := by decide +kernel
theorem d1_13 : DK cD56 13 (.iconst 1) 1 := by decide +kernel
theorem d1_14 : DK cD56 14 (.newarray .char) 2 := by decide +kernel
theorem d1_16 : DK cD56 16 (.dup) 1 := by decide +kernel
theorem d1_17 : DK cD56 17 (.iconst 0) 1 := by decide +kernel
theorem d1_18 : DK cD56 18 (.iload_n 1) 1 := by decide +kernel
theorem d1_19 : DK cD56 19 (.castore) 1 := by decide +kernel
theorem d1_20 : DK cD56 20 (.areturn) 1 := by decide +kernel
theorem ef_rmMake1 (m : MethodId) (y0 : Int32) (y1 : Int32) (y2 : Int32) (y3 : Int32) (y4 : Int32) : entryFrame m #[(.int y0), (.int y1), (.int y2), (.int y3), (.int y4)] 5 = (mkF m 0 #[vI y0, vI y1, vI y2, vI y3, vI y4] []) := by first | (simp [entryFrame, mkF, argsToLocals, Value.category]; done) | rfl
def Q_rmMake1 (Z : State) (p1 : Int32) (p2 : Int32) (p3 : Int32) (p4 : Int32) (p5 : Int32) (h0 : Heap) (n0 : Nat) (v : Option Value) (h : Heap) (L : List Loc) : Prop := ∃ (b : Addr) (kb : ClassId), v = some (.ref b) ∧ Fr n0 L ∧ Keep h0 h [] ∧ h0.size ≤ b ∧ Arv Z h b kb .char (1 : Int32) [(.int p2)] (.int 0)
theorem rmMake1 (l : Launch) (Z : State) (a0 : Array Value) (hw : HW a0 Z) (ws : List Jvm.Cond) (p1 : Int32) (p2 : Int32) (p3 : Int32) (p4 : Int32) (p5 : Int32) (h0 : Heap) (n0 : Nat) (O0 : Old Z n0 h0) (hm : p1 = (1 : Int32)) (r2 : ¬ p2 < 0 ∧ ¬ (65535 : Int32) < p2) :
  MF l mN56 method_3_code 5 (some (.array .char)) ws (Rm 0 1 1 0) Z #[(.int p1), (.int p2), (.int p3), (.int p4), (.int p5)] h0 (Q_rmMake1 Z p1 p2 p3 p4 p5 h0 n0) := by
 refine MetFree.of_bodySF (plainFor_of_name pn_0) hisR ?_
 intro p e s m args below meth c s₁ Bd hml0 hP hK
 obtain ⟨rfl, hZ, hh⟩ := hP
 have hx := Bd.exec
 have hby := Bd.bytes
 have hml : c.maxLocals = 5 := hml0
 have hown : s.vm.findClass "com/example/tidemark/tidemark/core/ReportLinesPrintablePinLaw" = some m.cls := findClass_of_methodNamed Bd.named
 have X0 : Stand p l e (Rm 0 1 1 0) s m #[(.int p1), (.int p2), (.int p3), (.int p4), (.int p5)] below meth c s₁ [] 0 0 := Stand.of_body Bd
 have e0 : s₁.heap = h0 := by rw [← hh, Bd.state]; rfl
 have N0 := Fr.nil n0
 have hn0 : n0 ≤ h0.size := O0.1 ▸ O0.2.1
 have pre0 : ∀ t, SS p e below s₁ m 0 #[vI p1, vI p2, vI p3, vI p4, vI p5] [] t → SE p e below s₁ m #[(.int p1), (.int p2), (.int p3), (.int p4), (.int p5)] 5 t := fun t k => castTop (ef_rmMake1 m p1 p2 p3 p4 p5) k
 obtain ⟨T101, h101, k101, X101, e101, E101, A101, st101⟩ := newP X0 hx hZ (tw hw 5 rfl) e0 (g := (mkF m 14 #[vI p1, vI p2, vI p3, vI p4, vI p5] [(.int 1)])) rfl (hb hby d1_14) rfl (by decide) (cap := 1) (by decide) (by decide) (by decide) (by decide)
 obtain ⟨b101, g101⟩ : ∃ z, z = h0.size := ⟨_, rfl⟩
 rw [← g101] at A101 st101
 have V101 : Arv Z h101 b101 k101 .char (1 : Int32) [(.int 0)] (.int 0) := (Arv.new A101 (by decide)).pad (pad_rep [] (.int 0) 1)
 have lt101 : @LT.lt Nat _ b101 h101.size := V101.lt
 have K101 : Keep h0 h101 [] := (Keep.refl _ _).ext E101
 have sz1_K101 := K101.1
 obtain ⟨cl102, Ar102, q102, S102, Nn102, H102, G102⟩ := id V101
 obtain ⟨T103, h103, X103, e103, W103, st103⟩ := stC X101 hx hZ e101 Ar102 (j := (0 : Int32)) (inb_of S102 ⟨by decide, by decide⟩) (g := (mkF m 19 #[vI p1, vI p2, vI p3, vI p4, vI p5] [(.int p2), (.int 0), (.ref b101), (.ref b101)])) rfl rfl (hb hby d1_19)
 rw [own_nc r2] at W103
 have V103 : Arv Z h103 b101 k101 .char (1 : Int32) [(.int p2)] (.int 0) := Arv.set Ar102 q102 S102 Nn102 H102 G102 (own_fitc r2) W103 0 rfl (Nat.le_of_ble_eq_true rfl)
 have K103 := Keep.of_wr W103
 have N103 := Fr.snoc X103 N0 (by omega : @LE.le Nat _ n0 b101)
 have sz2_K103 := K103.1
 have KC104 : Keep h0 h101 [] := (Keep.refl h0 []).trans K101 (all0)
 have KC105 : Keep h0 h103 [] := KC104.trans K103 (allS (Or.inr (by omega)) (all0))
 obtain ⟨fs, hr, hrun, hended, hW, hsame⟩ := X103.leave (v := some (.ref b101)) (nvr Bd.returns)
 refine ⟨_, _, pre0 _ ?_, hrun, hended, _, _, rfl, ?_, ⟨_, rfl⟩, hW, hsame.mono (by decide) (by decide)⟩
 ·skip
  show SS p e below s₁ m 0 #[vI p1, vI p2, vI p3, vI p4, vI p5] [] _
  refine XS.iloadN X0.here hx rfl (hb hby d1_0) rfl ?_
  refine XS.ifYes X0.here hx rfl (pc0 := 1) (pc' := 8) rfl (hb hby d1_1) rfl ((if0 _ _).trans (feq (by rw [hm]; decide : ¬ (p1 = (0 : Int32)))).2) (by decide) (by decide) ?_
  refine XS.iloadN X0.here hx rfl (hb hby d1_8) rfl ?_
  refine XS.iconst X0.here hx rfl (hb hby d1_9) ?_
  refine XS.icmpNo X0.here hx rfl (hb hby d1_10) rfl (teq (hm : p1 = (1 : Int32))).2 ?_
  refine XS.iconst X0.here hx rfl (hb hby d1_13) ?_
  show SS p e below s₁ m 14 #[vI p1, vI p2, vI p3, vI p4, vI p5] [(.int 1)] _
  refine st101 _ ?_
  refine XS.dup X101.here hx rfl (hb hby d1_16) rfl rfl ?_
  refine XS.iconst X101.here hx rfl (hb hby d1_17) ?_
  refine XS.iloadN X101.here hx rfl (hb hby d1_18) rfl ?_
  show SS p e below T101 m 19 #[vI p1, vI p2, vI p3, vI p4, vI p5] [(.int p2), (.int 0), (.ref b101), (.ref b101)] _
  refine st103 _ ?_
  show SS p e below T103 m 20 #[vI p1, vI p2, vI p3, vI p4, vI p5] [(.ref b101)] _
  exact X103.areturnOut hx rfl Bd.returns rfl (hb hby d1_20) hr
 ·show Q_rmMake1 Z p1 p2 p3 p4 p5 h0 n0 _ T103.heap _
  rw [e103]
  exact ⟨_, _, rfl, N103, KC105, (by omega), V103⟩
theorem d1_21 : DK cD56 21 (.iload_n 0) 1 := by decide +kernel
theorem d1_22 : DK cD56 22 (.iconst 2) 1 := by decide +kernel
theorem d1_23 : DK cD56 23 (.if_icmp .ne 15) 3 := by decide +kernel
theorem d1_26 : DK cD56 26 (.iconst 2) 1 := by decide +kernel
theorem d1_27 : DK cD56 27 (.newarray .char) 2 := by decide +kernel
theorem d1_29 : DK cD56 29 (.dup) 1 := by decide +kernel
theorem d1_30 : DK cD56 30 (.iconst 0) 1 := by decide +kernel
theorem d1_31 : DK cD56 31 (.iload_n 1) 1 := by decide +kernel
theorem d1_32 : DK cD56 32 (.castore) 1 := by decide +kernel
theorem d1_33 : DK cD56 33 (.dup) 1 := by decide +kernel
theorem d1_34 : DK cD56 34 (.iconst 1) 1 := by decide +kernel
theorem d1_35 : DK cD56 35 (.iload_n 2) 1 := by decide +kernel
theorem d1_36 : DK cD56 36 (.castore) 1 := by decide +kernel
theorem d1_37 : DK cD56 37 (.areturn) 1 := by decide +kernel
theorem ef_rmMake2 (m : MethodId) (y0 : Int32) (y1 : Int32) (y2 : Int32) (y3 : Int32) (y4 : Int32) : entryFrame m #[(.int y0), (.int y1), (.int y2), (.int y3), (.int y4)] 5 = (mkF m 0 #[vI y0, vI y1, vI y2, vI y3, vI y4] []) := by first | (simp [entryFrame, mkF, argsToLocals, Value.category]; done) | rfl
def Q_rmMake2 (Z : State) (p1 : Int32) (p2 : Int32) (p3 : Int32) (p4 : Int32) (p5 : Int32) (h0 : Heap) (n0 : Nat) (v : Option Value) (h : Heap) (L : List Loc) : Prop := ∃ (b : Addr) (kb : ClassId), v = some (.ref b) ∧ Fr n0 L ∧ Keep h0 h [] ∧ h0.size ≤ b ∧ Arv Z h b kb .char (2 : Int32) [(.int p2), (.int p3)] (.int 0)
theorem rmMake2 (l : Launch) (Z : State) (a0 : Array Value) (hw : HW a0 Z) (ws : List Jvm.Cond) (p1 : Int32) (p2 : Int32) (p3 : Int32) (p4 : Int32) (p5 : Int32) (h0 : Heap) (n0 : Nat) (O0 : Old Z n0 h0) (hm : p1 = (2 : Int32)) (r2 : ¬ p2 < 0 ∧ ¬ (65535 : Int32) < p2) (r3 : ¬ p3 < 0 ∧ ¬ (65535 : Int32) < p3) :
  MF l mN56 method_3_code 5 (some (.array .char)) ws (Rm 0 1 2 0) Z #[(.int p1), (.int p2), (.int p3), (.int p4), (.int p5)] h0 (Q_rmMake2 Z p1 p2 p3 p4 p5 h0 n0) := by
 refine MetFree.of_bodySF (plainFor_of_name pn_0) hisR ?_
 intro p e s m args below meth c s₁ Bd hml0 hP hK
 obtain ⟨rfl, hZ, hh⟩ := hP
 have hx := Bd.exec
 have hby := Bd.bytes
 have hml : c.maxLocals = 5 := hml0
 have hown : s.vm.findClass "com/example/tidemark/tidemark/core/ReportLinesPrintablePinLaw" = some m.cls := findClass_of_methodNamed Bd.named
 have X0 : Stand p l e (Rm 0 1 2 0) s m #[(.int p1), (.int p2), (.int p3), (.int p4), (.int p5)] below meth c s₁ [] 0 0 := Stand.of_body Bd
 have e0 : s₁.heap = h0 := by rw [← hh, Bd.state]; rfl
 have N0 := Fr.nil n0
 have hn0 : n0 ≤ h0.size := O0.1 ▸ O0.2.1
 have pre0 : ∀ t, SS p e below s₁ m 0 #[vI p1, vI p2, vI p3, vI p4, vI p5] [] t → SE p e below s₁ m #[(.int p1), (.int p2), (.int p3), (.int p4), (.int p5)] 5 t := fun t k => castTop (ef_rmMake2 m p1 p2 p3 p4 p5) k
 obtain ⟨T101, h101, k101, X101, e101, E101, A101, st101⟩ := newP X0 hx hZ (tw hw 5 rfl) e0 (g := (mkF m 27 #[vI p1, vI p2, vI p3, vI p4, vI p5] [(.int 2)])) rfl (hb hby d1_27) rfl (by decide) (cap := 2) (by decide) (by decide) (by decide) (by decide)
 obtain ⟨b101, g101⟩ : ∃ z, z = h0.size := ⟨_, rfl⟩
 rw [← g101] at A101 st101
 have V101 : Arv Z h101 b101 k101 .char (2 : Int32) [(.int 0), (.int 0)] (.int 0) := (Arv.new A101 (by decide)).pad (pad_rep [] (.int 0) 2)
 have lt101 : @LT.lt Nat _ b101 h101.size := V101.lt
 have K101 : Keep h0 h101 [] := (Keep.refl _ _).ext E101
 have sz1_K101 := K101.1
 obtain ⟨cl102, Ar102, q102, S102, Nn102, H102, G102⟩ := id V101
 obtain ⟨T103, h103, X103, e103, W103, st103⟩ := stC X101 hx hZ e101 Ar102 (j := (0 : Int32)) (inb_of S102 ⟨by decide, by decide⟩) (g := (mkF m 32 #[vI p1, vI p2, vI p3, vI p4, vI p5] [(.int p2), (.int 0), (.ref b101), (.ref b101)])) rfl rfl (hb hby d1_32)
 rw [own_nc r2] at W103
 have V103 : Arv Z h103 b101 k101 .char (2 : Int32) [(.int p2), (.int 0)] (.int 0) := Arv.set Ar102 q102 S102 Nn102 H102 G102 (own_fitc r2) W103 0 rfl (Nat.le_of_ble_eq_true rfl)
 have K103 := Keep.of_wr W103
 have N103 := Fr.snoc X103 N0 (by omega : @LE.le Nat _ n0 b101)
 have sz2_K103 := K103.1
 obtain ⟨cl104, Ar104, q104, S104, Nn104, H104, G104⟩ := id V103
 obtain ⟨T105, h105, X105, e105, W105, st105⟩ := stC X103 hx hZ e103 Ar104 (j := (1 : Int32)) (inb_of S104 ⟨by decide, by decide⟩) (g := (mkF m 36 #[vI p1, vI p2, vI p3, vI p4, vI p5] [(.int p3), (.int 1), (.ref b101), (.ref b101)])) rfl rfl (hb hby d1_36)
 rw [own_nc r3] at W105
 have V105 : Arv Z h105 b101 k101 .char (2 : Int32) [(.int p2), (.int p3)] (.int 0) := Arv.set Ar104 q104 S104 Nn104 H104 G104 (own_fitc r3) W105 1 rfl (Nat.le_of_ble_eq_true rfl)
 have K105 := Keep.of_wr W105
 have N105 := Fr.snoc X105 N103 (by omega : @LE.le Nat _ n0 b101)
 have sz3_K105 := K105.1
 have KC106 : Keep h0 h101 [] := (Keep.refl h0 []).trans K101 (all0)
 have KC107 : Keep h0 h103 [] := KC106.trans K103 (allS (Or.inr (by omega)) (all0))
 have KC108 : Keep h0 h105 [] := KC107.trans K105 (allS (Or.inr (by omega)) (all0))
 obtain ⟨fs, hr, hrun, hended, hW, hsame⟩ := X105.leave (v := some (.ref b101)) (nvr Bd.returns)
 refine ⟨_, _, pre0 _ ?_, hrun, hended, _, _, rfl, ?_, ⟨_, rfl⟩, hW, hsame.mono (by decide) (by decide)⟩
 ·skip
  show SS p e below s₁ m 0 #[vI p1, vI p2, vI p3, vI p4, vI p5] [] _
  refine XS.iloadN X0.here hx rfl (hb hby d1_0) rfl ?_
  refine XS.ifYes X0.here hx rfl (pc0 := 1) (pc' := 8) rfl (hb hby d1_1) rfl ((if0 _ _).trans (feq (by rw [hm]; decide : ¬ (p1 = (0 : Int32)))).2) (by decide) (by decide) ?_
  refine XS.iloadN X0.here hx rfl (hb hby d1_8) rfl ?_
  refine XS.iconst X0.here hx rfl (hb hby d1_9) ?_
  refine XS.icmpYes X0.here hx rfl (pc0 := 10) (pc' := 21) rfl (hb hby d1_10) rfl (feq (by rw [hm]; decide : ¬ (p1 = (1 : Int32)))).2 (by decide) (by decide) ?_
  refine XS.iloadN X0.here hx rfl (hb hby d1_21) rfl ?_
  refine XS.iconst X0.here hx rfl (hb hby d1_22) ?_
  refine XS.icmpNo X0.here hx rfl (hb hby d1_23) rfl (teq (hm : p1 = (2 : Int32))).2 ?_
  refine XS.iconst X0.here hx rfl (hb hby d1_26) ?_
  show SS p e below s₁ m 27 #[vI p1, vI p2, vI p3, vI p4, vI p5] [(.int 2)] _
  refine st101 _ ?_
  refine XS.dup X101.here hx rfl (hb hby d1_29) rfl rfl ?_
  refine XS.iconst X101.here hx rfl (hb hby d1_30) ?_
  refine XS.iloadN X101.here hx rfl (hb hby d1_31) rfl ?_
  show SS p e below T101 m 32 #[vI p1, vI p2, vI p3, vI p4, vI p5] [(.int p2), (.int 0), (.ref b101), (.ref b101)] _
  refine st103 _ ?_
  refine XS.dup X103.here hx rfl (hb hby d1_33) rfl rfl ?_
  refine XS.iconst X103.here hx rfl (hb hby d1_34) ?_
  refine XS.iloadN X103.here hx rfl (hb hby d1_35) rfl ?_
  show SS p e below T103 m 36 #[vI p1, vI p2, vI p3, vI p4, vI p5] [(.int p3), (.int 1), (.ref b101), (.ref b101)] _
  refine st105 _ ?_
  show SS p e below T105 m 37 #[vI p1, vI p2, vI p3, vI p4, vI p5] [(.ref b101)] _
  exact X105.areturnOut hx rfl Bd.returns rfl (hb hby d1_37) hr
 ·show Q_rmMake2 Z p1 p2 p3 p4 p5 h0 n0 _ T105.heap _
  rw [e105]
  exact ⟨_, _, rfl, N105, KC108, (by omega), V105⟩
theorem d1_38 : DK cD56 38 (.iload_n 0) 1 := by decide +kernel
theorem d1_39 : DK cD56 39 (.iconst 3) 1 := by decide +kernel
theorem d1_40 : DK cD56 40 (.if_icmp .ne 19) 3 := by decide +kernel
theorem d1_43 : DK cD56 43 (.iconst 3) 1 := by decide +kernel
theorem d1_44 : DK cD56 44 (.newarray .char) 2 := by decide +kernel
theorem d1_46 : DK cD56 46 (.dup) 1 := by decide +kernel
theorem d1_47 : DK cD56 47 (.iconst 0) 1 := by decide +kernel
theorem d1_48 : DK cD56 48 (.iload_n 1) 1 := by decide +kernel
theorem d1_49 : DK cD56 49 (.castore) 1 := by decide +kernel
theorem d1_50 : DK cD56 50 (.dup) 1 := by decide +kernel
theorem d1_51 : DK cD56 51 (.iconst 1) 1 := by decide +kernel
theorem d1_52 : DK cD56 52 (.iload_n 2) 1 := by decide +kernel
theorem d1_53 : DK cD56 53 (.castore) 1 := by decide +kernel
theorem d1_54 : DK cD56 54 (.dup) 1 := by decide +kernel
theorem d1_55 : DK cD56 55 (.iconst 2) 1 := by decide +kernel
theorem d1_56 : DK cD56 56 (.iload_n 3) 1 := by decide +kernel
theorem d1_57 : DK cD56 57 (.castore) 1 := by decide +kernel
theorem d1_58 : DK cD56 58 (.areturn) 1 := by decide +kernel
theorem ef_rmMake3 (m : MethodId) (y0 : Int32) (y1 : Int32) (y2 : Int32) (y3 : Int32) (y4 : Int32) : entryFrame m #[(.int y0), (.int y1), (.int y2), (.int y3), (.int y4)] 5 = (mkF m 0 #[vI y0, vI y1, vI y2, vI y3, vI y4] []) := by first | (simp [entryFrame, mkF, argsToLocals, Value.category]; done) | rfl
def Q_rmMake3 (Z : State) (p1 : Int32) (p2 : Int32) (p3 : Int32) (p4 : Int32) (p5 : Int32) (h0 : Heap) (n0 : Nat) (v : Option Value) (h : Heap) (L : List Loc) : Prop := ∃ (b : Addr) (kb : ClassId), v = some (.ref b) ∧ Fr n0 L ∧ Keep h0 h [] ∧ h0.size ≤ b ∧ Arv Z h b kb .char (3 : Int32) [(.int p2), (.int p3), (.int p4)] (.int 0)
theorem rmMake3 (l : Launch) (Z : State) (a0 : Array Value) (hw : HW a0 Z) (ws : List Jvm.Cond) (p1 : Int32) (p2 : Int32) (p3 : Int32) (p4 : Int32) (p5 : Int32) (h0 : Heap) (n0 : Nat) (O0 : Old Z n0 h0) (hm : p1 = (3 : Int32)) (r2 : ¬ p2 < 0 ∧ ¬ (65535 : Int32) < p2) (r3 : ¬ p3 < 0 ∧ ¬ (65535 : Int32) < p3) (r4 : ¬ p4 < 0 ∧ ¬ (65535 : Int32) < p4) :
  MF l mN56 method_3_code 5 (some (.array .char)) ws (Rm 0 1 3 0) Z #[(.int p1), (.int p2), (.int p3), (.int p4), (.int p5)] h0 (Q_rmMake3 Z p1 p2 p3 p4 p5 h0 n0) := by
 refine MetFree.of_bodySF (plainFor_of_name pn_0) hisR ?_
 intro p e s m args below meth c s₁ Bd hml0 hP hK
 obtain ⟨rfl, hZ, hh⟩ := hP
 have hx := Bd.exec
 have hby := Bd.bytes
 have hml : c.maxLocals = 5 := hml0
 have hown : s.vm.findClass "com/example/tidemark/tidemark/core/ReportLinesPrintablePinLaw" = some m.cls := findClass_of_methodNamed Bd.named
 have X0 : Stand p l e (Rm 0 1 3 0) s m #[(.int p1), (.int p2), (.int p3), (.int p4), (.int p5)] below meth c s₁ [] 0 0 := Stand.of_body Bd
 have e0 : s₁.heap = h0 := by rw [← hh, Bd.state]; rfl
 have N0 := Fr.nil n0
 have hn0 : n0 ≤ h0.size := O0.1 ▸ O0.2.1
 have pre0 : ∀ t, SS p e below s₁ m 0 #[vI p1, vI p2, vI p3, vI p4, vI p5] [] t → SE p e below s₁ m #[(.int p1), (.int p2), (.int p3), (.int p4), (.int p5)] 5 t := fun t k => castTop (ef_rmMake3 m p1 p2 p3 p4 p5) k
 obtain ⟨T101, h101, k101, X101, e101, E101, A101, st101⟩ := newP X0 hx hZ (tw hw 5 rfl) e0 (g := (mkF m 44 #[vI p1, vI p2, vI p3, vI p4, vI p5] [(.int 3)])) rfl (hb hby d1_44) rfl (by decide) (cap := 3) (by decide) (by decide) (by decide) (by decide)
 obtain ⟨b101, g101⟩ : ∃ z, z = h0.size := ⟨_, rfl⟩
 rw [← g101] at A101 st101
 have V101 : Arv Z h101 b101 k101 .char (3 : Int32) [(.int 0), (.int 0), (.int 0)] (.int 0) := (Arv.new A101 (by decide)).pad (pad_rep [] (.int 0) 3)
 have lt101 : @LT.lt Nat _ b101 h101.size := V101.lt
 have K101 : Keep h0 h101 [] := (Keep.refl _ _).ext E101
 have sz1_K101 := K101.1
 obtain ⟨cl102, Ar102, q102, S102, Nn102, H102, G102⟩ := id V101
 obtain ⟨T103, h103, X103, e103, W103, st103⟩ := stC X101 hx hZ e101 Ar102 (j := (0 : Int32)) (inb_of S102 ⟨by decide, by decide⟩) (g := (mkF m 49 #[vI p1, vI p2, vI p3, vI p4, vI p5] [(.int p2), (.int 0), (.ref b101), (.ref b101)])) rfl rfl (hb hby d1_49)
 rw [own_nc r2] at W103
 have V103 : Arv Z h103 b101 k101 .char (3 : Int32) [(.int p2), (.int 0), (.int 0)] (.int 0) := Arv.set Ar102 q102 S102 Nn102 H102 G102 (own_fitc r2) W103 0 rfl (Nat.le_of_ble_eq_true rfl)
 have K103 := Keep.of_wr W103
 have N103 := Fr.snoc X103 N0 (by omega : @LE.le Nat _ n0 b101)
 have sz2_K103 := K103.1
 obtain ⟨cl104, Ar104, q104, S104, Nn104, H104, G104⟩ := id V103
 obtain ⟨T105, h105, X105, e105, W105, st105⟩ := stC X103 hx hZ e103 Ar104 (j := (1 : Int32)) (inb_of S104 ⟨by decide, by decide⟩) (g := (mkF m 53 #[vI p1, vI p2, vI p3, vI p4, vI p5] [(.int p3), (.int 1), (.ref b101), (.ref b101)])) rfl rfl (hb hby d1_53)
 rw [own_nc r3] at W105
 have V105 : Arv Z h105 b101 k101 .char (3 : Int32) [(.int p2), (.int p3), (.int 0)] (.int 0) := Arv.set Ar104 q104 S104 Nn104 H104 G104 (own_fitc r3) W105 1 rfl (Nat.le_of_ble_eq_true rfl)
 have K105 := Keep.of_wr W105
 have N105 := Fr.snoc X105 N103 (by omega : @LE.le Nat _ n0 b101)
 have sz3_K105 := K105.1
 obtain ⟨cl106, Ar106, q106, S106, Nn106, H106, G106⟩ := id V105
 obtain ⟨T107, h107, X107, e107, W107, st107⟩ := stC X105 hx hZ e105 Ar106 (j := (2 : Int32)) (inb_of S106 ⟨by decide, by decide⟩) (g := (mkF m 57 #[vI p1, vI p2, vI p3, vI p4, vI p5] [(.int p4), (.int 2), (.ref b101), (.ref b101)])) rfl rfl (hb hby d1_57)
 rw [own_nc r4] at W107
 have V107 : Arv Z h107 b101 k101 .char (3 : Int32) [(.int p2), (.int p3), (.int p4)] (.int 0) := Arv.set Ar106 q106 S106 Nn106 H106 G106 (own_fitc r4) W107 2 rfl (Nat.le_of_ble_eq_true rfl)
 have K107 := Keep.of_wr W107
 have N107 := Fr.snoc X107 N105 (by omega : @LE.le Nat _ n0 b101)
 have sz4_K107 := K107.1
 have KC108 : Keep h0 h101 [] := (Keep.refl h0 []).trans K101 (all0)
 have KC109 : Keep h0 h103 [] := KC108.trans K103 (allS (Or.inr (by omega)) (all0))
 have KC110 : Keep h0 h105 [] := KC109.trans K105 (allS (Or.inr (by omega)) (all0))
 have KC111 : Keep h0 h107 [] := KC110.trans K107 (allS (Or.inr (by omega)) (all0))
 obtain ⟨fs, hr, hrun, hended, hW, hsame⟩ := X107.leave (v := some (.ref b101)) (nvr Bd.returns)
 refine ⟨_, _, pre0 _ ?_, hrun, hended, _, _, rfl, ?_, ⟨_, rfl⟩, hW, hsame.mono (by decide) (by decide)⟩
 ·skip
  show SS p e below s₁ m 0 #[vI p1, vI p2, vI p3, vI p4, vI p5] [] _
  refine XS.iloadN X0.here hx rfl (hb hby d1_0) rfl ?_
  refine XS.ifYes X0.here hx rfl (pc0 := 1) (pc' := 8) rfl (hb hby d1_1) rfl ((if0 _ _).trans (feq (by rw [hm]; decide : ¬ (p1 = (0 : Int32)))).2) (by decide) (by decide) ?_
  refine XS.iloadN X0.here hx rfl (hb hby d1_8) rfl ?_
  refine XS.iconst X0.here hx rfl (hb hby d1_9) ?_
  refine XS.icmpYes X0.here hx rfl (pc0 := 10) (pc' := 21) rfl (hb hby d1_10) rfl (feq (by rw [hm]; decide : ¬ (p1 = (1 : Int32)))).2 (by decide) (by decide) ?_
  refine XS.iloadN X0.here hx rfl (hb hby d1_21) rfl ?_
  refine XS.iconst X0.here hx rfl (hb hby d1_22) ?_
  refine XS.icmpYes X0.here hx rfl (pc0 := 23) (pc' := 38) rfl (hb hby d1_23) rfl (feq (by rw [hm]; decide : ¬ (p1 = (2 : Int32)))).2 (by decide) (by decide) ?_
  refine XS.iloadN X0.here hx rfl (hb hby d1_38) rfl ?_
  refine XS.iconst X0.here hx rfl (hb hby d1_39) ?_
  refine XS.icmpNo X0.here hx rfl (hb hby d1_40) rfl (teq (hm : p1 = (3 : Int32))).2 ?_
  refine XS.iconst X0.here hx rfl (hb hby d1_43) ?_
  show SS p e below s₁ m 44 #[vI p1, vI p2, vI p3, vI p4, vI p5] [(.int 3)] _
  refine st101 _ ?_
  refine XS.dup X101.here hx rfl (hb hby d1_46) rfl rfl ?_
  refine XS.iconst X101.here hx rfl (hb hby d1_47) ?_
  refine XS.iloadN X101.here hx rfl (hb hby d1_48) rfl ?_
  show SS p e below T101 m 49 #[vI p1, vI p2, vI p3, vI p4, vI p5] [(.int p2), (.int 0), (.ref b101), (.ref b101)] _
  refine st103 _ ?_
  refine XS.dup X103.here hx rfl (hb hby d1_50) rfl rfl ?_
  refine XS.iconst X103.here hx rfl (hb hby d1_51) ?_
  refine XS.iloadN X103.here hx rfl (hb hby d1_52) rfl ?_
  show SS p e below T103 m 53 #[vI p1, vI p2, vI p3, vI p4, vI p5] [(.int p3), (.int 1), (.ref b101), (.ref b101)] _
  refine st105 _ ?_
  refine XS.dup X105.here hx rfl (hb hby d1_54) rfl rfl ?_
  refine XS.iconst X105.here hx rfl (hb hby d1_55) ?_
  refine XS.iloadN X105.here hx rfl (hb hby d1_56) rfl ?_
  show SS p e below T105 m 57 #[vI p1, vI p2, vI p3, vI p4, vI p5] [(.int p4), (.int 2), (.ref b101), (.ref b101)] _
  refine st107 _ ?_
  show SS p e below T107 m 58 #[vI p1, vI p2, vI p3, vI p4, vI p5] [(.ref b101)] _
  exact X107.areturnOut hx rfl Bd.returns rfl (hb hby d1_58) hr
 ·show Q_rmMake3 Z p1 p2 p3 p4 p5 h0 n0 _ T107.heap _
  rw [e107]
  exact ⟨_, _, rfl, N107, KC111, (by omega), V107⟩
theorem d1_59 : DK cD56 59 (.iconst 4) 1 := by decide +kernel
theorem d1_60 : DK cD56 60 (.newarray .char) 2 := by decide +kernel
theorem d1_62 : DK cD56 62 (.dup) 1 := by decide +kernel
theorem d1_63 : DK cD56 63 (.iconst 0) 1 := by decide +kernel
theorem d1_64 : DK cD56 64 (.iload_n 1) 1 := by decide +kernel
theorem d1_65 : DK cD56 65 (.castore) 1 := by decide +kernel
theorem d1_66 : DK cD56 66 (.dup) 1 := by decide +kernel
theorem d1_67 : DK cD56 67 (.iconst 1) 1 := by decide +kernel
theorem d1_68 : DK cD56 68 (.iload_n 2) 1 := by decide +kernel
theorem d1_69 : DK cD56 69 (.castore) 1 := by decide +kernel
theorem d1_70 : DK cD56 70 (.dup) 1 := by decide +kernel
theorem d1_71 : DK cD56 71 (.iconst 2) 1 := by decide +kernel
theorem d1_72 : DK cD56 72 (.iload_n 3) 1 := by decide +kernel
theorem d1_73 : DK cD56 73 (.castore) 1 := by decide +kernel
theorem d1_74 : DK cD56 74 (.dup) 1 := by decide +kernel
theorem d1_75 : DK cD56 75 (.iconst 3) 1 := by decide +kernel
theorem d1_76 : DK cD56 76 (.iload 4) 2 := by decide +kernel
theorem d1_78 : DK cD56 78 (.castore) 1 := by decide +kernel
theorem d1_79 : DK cD56 79 (.areturn) 1 := by decide +kernel
theorem ef_rmMake4 (m : MethodId) (y0 : Int32) (y1 : Int32) (y2 : Int32) (y3 : Int32) (y4 : Int32) : entryFrame m #[(.int y0), (.int y1), (.int y2), (.int y3), (.int y4)] 5 = (mkF m 0 #[vI y0, vI y1, vI y2, vI y3, vI y4] []) := by first | (simp [entryFrame, mkF, argsToLocals, Value.category]; done) | rfl
def Q_rmMake4 (Z : State) (p1 : Int32) (p2 : Int32) (p3 : Int32) (p4 : Int32) (p5 : Int32) (h0 : Heap) (n0 : Nat) (v : Option Value) (h : Heap) (L : List Loc) : Prop := ∃ (b : Addr) (kb : ClassId), v = some (.ref b) ∧ Fr n0 L ∧ Keep h0 h [] ∧ h0.size ≤ b ∧ Arv Z h b kb .char (4 : Int32) [(.int p2), (.int p3), (.int p4), (.int p5)] (.int 0)
theorem rmMake4 (l : Launch) (Z : State) (a0 : Array Value) (hw : HW a0 Z) (ws : List Jvm.Cond) (p1 : Int32) (p2 : Int32) (p3 : Int32) (p4 : Int32) (p5 : Int32) (h0 : Heap) (n0 : Nat) (O0 : Old Z n0 h0) (hm : p1 = (4 : Int32)) (r2 : ¬ p2 < 0 ∧ ¬ (65535 : Int32) < p2) (r3 : ¬ p3 < 0 ∧ ¬ (65535 : Int32) < p3) (r4 : ¬ p4 < 0 ∧ ¬ (65535 : Int32) < p4) (r5 : ¬ p5 < 0 ∧ ¬ (65535 : Int32) < p5) :
  MF l mN56 method_3_code 5 (some (.array .char)) ws (Rm 0 1 4 0) Z #[(.int p1), (.int p2), (.int p3), (.int p4), (.int p5)] h0 (Q_rmMake4 Z p1 p2 p3 p4 p5 h0 n0) := by
 refine MetFree.of_bodySF (plainFor_of_name pn_0) hisR ?_
 intro p e s m args below meth c s₁ Bd hml0 hP hK
 obtain ⟨rfl, hZ, hh⟩ := hP
 have hx := Bd.exec
 have hby := Bd.bytes
 have hml : c.maxLocals = 5 := hml0
 have hown : s.vm.findClass "com/example/tidemark/tidemark/core/ReportLinesPrintablePinLaw" = some m.cls := findClass_of_methodNamed Bd.named
 have X0 : Stand p l e (Rm 0 1 4 0) s m #[(.int p1), (.int p2), (.int p3), (.int p4), (.int p5)] below meth c s₁ [] 0 0 := Stand.of_body Bd
 have e0 : s₁.heap = h0 := by rw [← hh, Bd.state]; rfl
 have N0 := Fr.nil n0
 have hn0 : n0 ≤ h0.size := O0.1 ▸ O0.2.1
 have pre0 : ∀ t, SS p e below s₁ m 0 #[vI p1, vI p2, vI p3, vI p4, vI p5] [] t → SE p e below s₁ m #[(.int p1), (.int p2), (.int p3), (.int p4), (.int p5)] 5 t := fun t k => castTop (ef_rmMake4 m p1 p2 p3 p4 p5) k
 obtain ⟨T101, h101, k101, X101, e101, E101, A101, st101⟩ := newP X0 hx hZ (tw hw 5 rfl) e0 (g := (mkF m 60 #[vI p1, vI p2, vI p3, vI p4, vI p5] [(.int 4)])) rfl (hb hby d1_60) rfl (by decide) (cap := 4) (by decide) (by decide) (by decide) (by decide)
 obtain ⟨b101, g101⟩ : ∃ z, z = h0.size := ⟨_, rfl⟩
 rw [← g101] at A101 st101
 have V101 : Arv Z h101 b101 k101 .char (4 : Int32) [(.int 0), (.int 0), (.int 0), (.int 0)] (.int 0) := (Arv.new A101 (by decide)).pad (pad_rep [] (.int 0) 4)
 have lt101 : @LT.lt Nat _ b101 h101.size := V101.lt
 have K101 : Keep h0 h101 [] := (Keep.refl _ _).ext E101
 have sz1_K101 := K101.1
 obtain ⟨cl102, Ar102, q102, S102, Nn102, H102, G102⟩ := id V101
 obtain ⟨T103, h103, X103, e103, W103, st103⟩ := stC X101 hx hZ e101 Ar102 (j := (0 : Int32)) (inb_of S102 ⟨by decide, by decide⟩) (g := (mkF m 65 #[vI p1, vI p2, vI p3, vI p4, vI p5] [(.int p2), (.int 0), (.ref b101), (.ref b101)])) rfl rfl (hb hby d1_65)
 rw [own_nc r2] at W103
 have V103 : Arv Z h103 b101 k101 .char (4 : Int32) [(.int p2), (.int 0), (.int 0), (.int 0)] (.int 0) := Arv.set Ar102 q102 S102 Nn102 H102 G102 (own_fitc r2) W103 0 rfl (Nat.le_of_ble_eq_true rfl)
 have K103 := Keep.of_wr W103
 have N103 := Fr.snoc X103 N0 (by omega : @LE.le Nat _ n0 b101)
 have sz2_K103 := K103.1
 obtain ⟨cl104, Ar104, q104, S104, Nn104, H104, G104⟩ := id V103
 obtain ⟨T105, h105, X105, e105, W105, st105⟩ := stC X103 hx hZ e103 Ar104 (j := (1 : Int32)) (inb_of S104 ⟨by decide, by decide⟩) (g := (mkF m 69 #[vI p1, vI p2, vI p3, vI p4, vI p5] [(.int p3), (.int 1), (.ref b101), (.ref b101)])) rfl rfl (hb hby d1_69)
 rw [own_nc r3] at W105
 have V105 : Arv Z h105 b101 k101 .char (4 : Int32) [(.int p2), (.int p3), (.int 0), (.int 0)] (.int 0) := Arv.set Ar104 q104 S104 Nn104 H104 G104 (own_fitc r3) W105 1 rfl (Nat.le_of_ble_eq_true rfl)
 have K105 := Keep.of_wr W105
 have N105 := Fr.snoc X105 N103 (by omega : @LE.le Nat _ n0 b101)
 have sz3_K105 := K105.1
 obtain ⟨cl106, Ar106, q106, S106, Nn106, H106, G106⟩ := id V105
 obtain ⟨T107, h107, X107, e107, W107, st107⟩ := stC X105 hx hZ e105 Ar106 (j := (2 : Int32)) (inb_of S106 ⟨by decide, by decide⟩) (g := (mkF m 73 #[vI p1, vI p2, vI p3, vI p4, vI p5] [(.int p4), (.int 2), (.ref b101), (.ref b101)])) rfl rfl (hb hby d1_73)
 rw [own_nc r4] at W107
 have V107 : Arv Z h107 b101 k101 .char (4 : Int32) [(.int p2), (.int p3), (.int p4), (.int 0)] (.int 0) := Arv.set Ar106 q106 S106 Nn106 H106 G106 (own_fitc r4) W107 2 rfl (Nat.le_of_ble_eq_true rfl)
 have K107 := Keep.of_wr W107
 have N107 := Fr.snoc X107 N105 (by omega : @LE.le Nat _ n0 b101)
 have sz4_K107 := K107.1
 obtain ⟨cl108, Ar108, q108, S108, Nn108, H108, G108⟩ := id V107
 obtain ⟨T109, h109, X109, e109, W109, st109⟩ := stC X107 hx hZ e107 Ar108 (j := (3 : Int32)) (inb_of S108 ⟨by decide, by decide⟩) (g := (mkF m 78 #[vI p1, vI p2, vI p3, vI p4, vI p5] [(.int p5), (.int 3), (.ref b101), (.ref b101)])) rfl rfl (hb hby d1_78)
 rw [own_nc r5] at W109
 have V109 : Arv Z h109 b101 k101 .char (4 : Int32) [(.int p2), (.int p3), (.int p4), (.int p5)] (.int 0) := Arv.set Ar108 q108 S108 Nn108 H108 G108 (own_fitc r5) W109 3 rfl (Nat.le_of_ble_eq_true rfl)
 have K109 := Keep.of_wr W109
 have N109 := Fr.snoc X109 N107 (by omega : @LE.le Nat _ n0 b101)
 have sz5_K109 := K109.1
 have KC110 : Keep h0 h101 [] := (Keep.refl h0 []).trans K101 (all0)
 have KC111 : Keep h0 h103 [] := KC110.trans K103 (allS (Or.inr (by omega)) (all0))
 have KC112 : Keep h0 h105 [] := KC111.trans K105 (allS (Or.inr (by omega)) (all0))
 have KC113 : Keep h0 h107 [] := KC112.trans K107 (allS (Or.inr (by omega)) (all0))
 have KC114 : Keep h0 h109 [] := KC113.trans K109 (allS (Or.inr (by omega)) (all0))
 obtain ⟨fs, hr, hrun, hended, hW, hsame⟩ := X109.leave (v := some (.ref b101)) (nvr Bd.returns)
 refine ⟨_, _, pre0 _ ?_, hrun, hended, _, _, rfl, ?_, ⟨_, rfl⟩, hW, hsame.mono (by decide) (by decide)⟩
 ·skip
  show SS p e below s₁ m 0 #[vI p1, vI p2, vI p3, vI p4, vI p5] [] _
  refine XS.iloadN X0.here hx rfl (hb hby d1_0) rfl ?_
  refine XS.ifYes X0.here hx rfl (pc0 := 1) (pc' := 8) rfl (hb hby d1_1) rfl ((if0 _ _).trans (feq (by rw [hm]; decide : ¬ (p1 = (0 : Int32)))).2) (by decide) (by decide) ?_
  refine XS.iloadN X0.here hx rfl (hb hby d1_8) rfl ?_
  refine XS.iconst X0.here hx rfl (hb hby d1_9) ?_
  refine XS.icmpYes X0.here hx rfl (pc0 := 10) (pc' := 21) rfl (hb hby d1_10) rfl (feq (by rw [hm]; decide : ¬ (p1 = (1 : Int32)))).2 (by decide) (by decide) ?_
  refine XS.iloadN X0.here hx rfl (hb hby d1_21) rfl ?_
  refine XS.iconst X0.here hx rfl (hb hby d1_22) ?_
  refine XS.icmpYes X0.here hx rfl (pc0 := 23) (pc' := 38) rfl (hb hby d1_23) rfl (feq (by rw [hm]; decide : ¬ (p1 = (2 : Int32)))).2 (by decide) (by decide) ?_
  refine XS.iloadN X0.here hx rfl (hb hby d1_38) rfl ?_
  refine XS.iconst X0.here hx rfl (hb hby d1_39) ?_
  refine XS.icmpYes X0.here hx rfl (pc0 := 40) (pc' := 59) rfl (hb hby d1_40) rfl (feq (by rw [hm]; decide : ¬ (p1 = (3 : Int32)))).2 (by decide) (by decide) ?_
  refine XS.iconst X0.here hx rfl (hb hby d1_59) ?_
  show SS p e below s₁ m 60 #[vI p1, vI p2, vI p3, vI p4, vI p5] [(.int 4)] _
  refine st101 _ ?_
  refine XS.dup X101.here hx rfl (hb hby d1_62) rfl rfl ?_
  refine XS.iconst X101.here hx rfl (hb hby d1_63) ?_
  refine XS.iloadN X101.here hx rfl (hb hby d1_64) rfl ?_
  show SS p e below T101 m 65 #[vI p1, vI p2, vI p3, vI p4, vI p5] [(.int p2), (.int 0), (.ref b101), (.ref b101)] _
  refine st103 _ ?_
  refine XS.dup X103.here hx rfl (hb hby d1_66) rfl rfl ?_
  refine XS.iconst X103.here hx rfl (hb hby d1_67) ?_
  refine XS.iloadN X103.here hx rfl (hb hby d1_68) rfl ?_
  show SS p e below T103 m 69 #[vI p1, vI p2, vI p3, vI p4, vI p5] [(.int p3), (.int 1), (.ref b101), (.ref b101)] _
  refine st105 _ ?_
  refine XS.dup X105.here hx rfl (hb hby d1_70) rfl rfl ?_
  refine XS.iconst X105.here hx rfl (hb hby d1_71) ?_
  refine XS.iloadN X105.here hx rfl (hb hby d1_72) rfl ?_
  show SS p e below T105 m 73 #[vI p1, vI p2, vI p3, vI p4, vI p5] [(.int p4), (.int 2), (.ref b101), (.ref b101)] _
  refine st107 _ ?_
  refine XS.dup X107.here hx rfl (hb hby d1_74) rfl rfl ?_
  refine XS.iconst X107.here hx rfl (hb hby d1_75) ?_
  refine XS.iload X107.here hx rfl (hb hby d1_76) rfl ?_
  show SS p e below T107 m 78 #[vI p1, vI p2, vI p3, vI p4, vI p5] [(.int p5), (.int 3), (.ref b101), (.ref b101)] _
  refine st109 _ ?_
  show SS p e below T109 m 79 #[vI p1, vI p2, vI p3, vI p4, vI p5] [(.ref b101)] _
  exact X109.areturnOut hx rfl Bd.returns rfl (hb hby d1_79) hr
 ·show Q_rmMake4 Z p1 p2 p3 p4 p5 h0 n0 _ T109.heap _
  rw [e109]
  exact ⟨_, _, rfl, N109, KC114, (by omega), V109⟩
theorem pd_0 : parseMethodDescriptor "(ICCCC)[C" = some ⟨[.int, .char, .char, .char, .char], some (.array .char)⟩ := by decide +kernel
theorem pd_1 : parseMethodDescriptor "([C)V" = some ⟨[(.array .char)], none⟩ := by decide +kernel
theorem pd_4 : parseMethodDescriptor "(Ljava/lang/String;)Ljava/lang/String;" = some ⟨[(.object "java/lang/String")], some (.object "java/lang/String")⟩ := by decide +kernel
theorem ef_rm0 (m : MethodId) (y0 : Int32) (y1 : Int32) (y2 : Int32) (y3 : Int32) (y4 : Int32) : entryFrame m #[(.int y0), (.int y1), (.int y2), (.int y3), (.int y4)] maxLocals = (mkF m 0 #[vI y0, vI y1, vI y2, vI y3, vI y4, .unset, .unset, .unset, .unset, .unset, .unset, .unset] []) := by first | (simp [entryFrame, mkF, argsToLocals, Value.category, maxLocals]; done) | rfl
def Q_rm0 (Z : State) (p1 : Int32) (p2 : Int32) (p3 : Int32) (p4 : Int32) (p5 : Int32) (cs0 : Int32) (fm : Value) (h0 : Heap) (n0 : Nat) (v : Option Value) (h : Heap) (L : List Loc) : Prop := v = some (.int 1) ∧ Fr n0 L
theorem rm0 (l : Launch) (Z : State) (a0 : Array Value) (hw : HW a0 Z) (ws : List Jvm.Cond) (p1 : Int32) (p2 : Int32) (p3 : Int32) (p4 : Int32) (p5 : Int32) (cs0 : Int32) (fm : Value) (h0 : Heap) (n0 : Nat) (O0 : Old Z n0 h0) (S_CS : SCS Z cs0) (c_CS : ¬ (cs0 = (0 : Int32))) (S_AD : SAD Z) (S_HI : SHI Z) (S_LO : SLO Z) (S_FM : SFM Z fm) (r_FM : fm.isRef = true) :
  MetFree l x (head1 (Jvm.Cond.code x code maxLocals ret :: ws) room_1) (fun a U => a = #[(.int p1), (.int p2), (.int p3), (.int p4), (.int p5)] ∧ Z.Warmed39 U.vm ∧ U.heap = h0 ∧ CHv Z EL1 U.vm h0) (fun _ _ _ _ _ => True) (fun _ U o U' => ∃ v L, o = .returned v ∧ Q_rm0 Z p1 p2 p3 p4 p5 cs0 fm h0 n0 v U'.heap L ∧ ReturnedEndW U o U' L room_1.cells room_1.slots) := by
 refine MetFree.of_bodySF (plainFor_of_name pn_0) hisR ?_
 intro p e s m args below meth c s₁ Bd hml0 hP hK
 obtain ⟨rfl, hZ, hh, hCH⟩ := hP
 have hx := Bd.exec
 have hby := Bd.bytes
 have hml : c.maxLocals = 12 := hml0
 have hown : s.vm.findClass "com/example/tidemark/tidemark/core/ReportLinesPrintablePinLaw" = some m.cls := findClass_of_methodNamed Bd.named
 have X0 : Stand p l e room_1 s m #[(.int p1), (.int p2), (.int p3), (.int p4), (.int p5)] below meth c s₁ [] 0 0 := Stand.of_body Bd
 have e0 : s₁.heap = h0 := by rw [← hh, Bd.state]; rfl
 have N0 := Fr.nil n0
 have hn0 : n0 ≤ h0.size := O0.1 ▸ O0.2.1
 have hS0 : s.Since s.vm h0.size := (State.WarmedH.refl s).since _
 have pre0 : ∀ t, SS p e below s₁ m 0 #[vI p1, vI p2, vI p3, vI p4, vI p5, .unset, .unset, .unset, .unset, .unset, .unset, .unset] [] t → SE p e below s₁ m #[(.int p1), (.int p2), (.int p3), (.int p4), (.int p5)] maxLocals t := fun t k => castTop (ef_rm0 m p1 p2 p3 p4 p5) k
 have wStr : ∀ d ∈ Bundle.stringAtoms, d.before a0 Z = true := fun d hd => hw d ((by decide +kernel : ∀ d ∈ Bundle.stringAtoms, d ∈ tables_1) d hd)
 have hws : ∀ d ∈ StrChars.Road.words, d.before a0 Z = true := fun d hd => hw d ((by decide +kernel : ∀ d ∈ StrChars.Road.words, d ∈ tables_1) d hd)
 have hEW : EW Z a0 EL1 := EW.cons (tw hw 19 rfl) (by decide) EW.nil
 have pre101 : ∀ t, SS p e below s₁ m 25 #[vI p1, vI p2, vI p3, vI p4, vI p5, vI ((p1 &&& (2147483647 : Int32)) % (5 : Int32)), vI (p2.toUInt32.toUInt16.toUInt32.toInt32), vI (p3.toUInt32.toUInt16.toUInt32.toInt32), vI (p4.toUInt32.toUInt16.toUInt32.toInt32), vI (p5.toUInt32.toUInt16.toUInt32.toInt32), .unset, .unset] [] t → SE p e below s₁ m #[(.int p1), (.int p2), (.int p3), (.int p4), (.int p5)] maxLocals t := by
  intro t kt
  refine pre0 _ ?_
  show SS p e below s₁ m 0 #[vI p1, vI p2, vI p3, vI p4, vI p5, .unset, .unset, .unset, .unset, .unset, .unset, .unset] [] _
  refine XS.iloadN X0.here hx rfl (hb hby at_0) rfl ?_
  show SS p e below s₁ m 1 #[vI p1, vI p2, vI p3, vI p4, vI p5, .unset, .unset, .unset, .unset, .unset, .unset, .unset] [(.int p1)] _
  refine X0.ldcInt hx hown (mvT hZ (tw hw 0 rfl)) (g := (mkF m 1 #[vI p1, vI p2, vI p3, vI p4, vI p5, .unset, .unset, .unset, .unset, .unset, .unset, .unset] [(.int p1)])) rfl (hb hby at_1) _ ?_
  refine XS.iand X0.here hx rfl (hb hby at_3) rfl ?_
  refine XS.iconst X0.here hx rfl (hb hby at_4) ?_
  show SS p e below s₁ m 5 #[vI p1, vI p2, vI p3, vI p4, vI p5, .unset, .unset, .unset, .unset, .unset, .unset, .unset] [(.int 5), (.int (p1 &&& (2147483647 : Int32)))] _
  refine iremM (g := (mkF m 5 #[vI p1, vI p2, vI p3, vI p4, vI p5, .unset, .unset, .unset, .unset, .unset, .unset, .unset] [(.int 5), (.int (p1 &&& (2147483647 : Int32)))])) X0 hx rfl (hb hby at_5) rfl (by decide) ?_
  refine XS.istore X0.here hx rfl (hb hby at_6) rfl (l' := #[vI p1, vI p2, vI p3, vI p4, vI p5, vI ((p1 &&& (2147483647 : Int32)) % (5 : Int32)), .unset, .unset, .unset, .unset, .unset, .unset]) rfl ?_
  refine XS.iloadN X0.here hx rfl (hb hby at_8) rfl ?_
  refine XS.i2c X0.here hx rfl (hb hby at_9) rfl ?_
  refine XS.istore X0.here hx rfl (hb hby at_10) rfl (l' := #[vI p1, vI p2, vI p3, vI p4, vI p5, vI ((p1 &&& (2147483647 : Int32)) % (5 : Int32)), vI (p2.toUInt32.toUInt16.toUInt32.toInt32), .unset, .unset, .unset, .unset, .unset]) rfl ?_
  refine XS.iloadN X0.here hx rfl (hb hby at_12) rfl ?_
  refine XS.i2c X0.here hx rfl (hb hby at_13) rfl ?_
  refine XS.istore X0.here hx rfl (hb hby at_14) rfl (l' := #[vI p1, vI p2, vI p3, vI p4, vI p5, vI ((p1 &&& (2147483647 : Int32)) % (5 : Int32)), vI (p2.toUInt32.toUInt16.toUInt32.toInt32), vI (p3.toUInt32.toUInt16.toUInt32.toInt32), .unset, .unset, .unset, .unset]) rfl ?_
  refine XS.iloadN X0.here hx rfl (hb hby at_16) rfl ?_
  refine XS.i2c X0.here hx rfl (hb hby at_17) rfl ?_
  refine XS.istore X0.here hx rfl (hb hby at_18) rfl (l' := #[vI p1, vI p2, vI p3, vI p4, vI p5, vI ((p1 &&& (2147483647 : Int32)) % (5 : Int32)), vI (p2.toUInt32.toUInt16.toUInt32.toInt32), vI (p3.toUInt32.toUInt16.toUInt32.toInt32), vI (p4.toUInt32.toUInt16.toUInt32.toInt32), .unset, .unset, .unset]) rfl ?_
  refine XS.iload X0.here hx rfl (hb hby at_20) rfl ?_
  refine XS.i2c X0.here hx rfl (hb hby at_22) rfl ?_
  refine XS.istore X0.here hx rfl (hb hby at_23) rfl (l' := #[vI p1, vI p2, vI p3, vI p4, vI p5, vI ((p1 &&& (2147483647 : Int32)) % (5 : Int32)), vI (p2.toUInt32.toUInt16.toUInt32.toInt32), vI (p3.toUInt32.toUInt16.toUInt32.toInt32), vI (p4.toUInt32.toUInt16.toUInt32.toInt32), vI (p5.toUInt32.toUInt16.toUInt32.toInt32), .unset, .unset]) rfl ?_
  exact kt
 obtain ⟨ch2, eh2, rh2⟩ : ∃ z, (p2.toUInt32.toUInt16.toUInt32.toInt32) = z ∧ (¬ z < 0 ∧ ¬ (65535 : Int32) < z) := ⟨_, rfl, own_chr _⟩
 have hr102 : (p2.toUInt32.toUInt16.toUInt32.toInt32) = ch2 := eh2
 obtain ⟨ch3, eh3, rh3⟩ : ∃ z, (p3.toUInt32.toUInt16.toUInt32.toInt32) = z ∧ (¬ z < 0 ∧ ¬ (65535 : Int32) < z) := ⟨_, rfl, own_chr _⟩
 have hr103 : (p3.toUInt32.toUInt16.toUInt32.toInt32) = ch3 := eh3
 obtain ⟨ch4, eh4, rh4⟩ : ∃ z, (p4.toUInt32.toUInt16.toUInt32.toInt32) = z ∧ (¬ z < 0 ∧ ¬ (65535 : Int32) < z) := ⟨_, rfl, own_chr _⟩
 have hr104 : (p4.toUInt32.toUInt16.toUInt32.toInt32) = ch4 := eh4
 obtain ⟨ch5, eh5, rh5⟩ : ∃ z, (p5.toUInt32.toUInt16.toUInt32.toInt32) = z ∧ (¬ z < 0 ∧ ¬ (65535 : Int32) < z) := ⟨_, rfl, own_chr _⟩
 have hr105 : (p5.toUInt32.toUInt16.toUInt32.toInt32) = ch5 := eh5
 have pre106 : ∀ t, SS p e below s₁ m 25 #[vI p1, vI p2, vI p3, vI p4, vI p5, vI ((p1 &&& (2147483647 : Int32)) % (5 : Int32)), vI ch2, vI ch3, vI ch4, vI ch5, .unset, .unset] [] t → SE p e below s₁ m #[(.int p1), (.int p2), (.int p3), (.int p4), (.int p5)] maxLocals t := by
  intro t kt
  refine pre101 _ ?_
  show SS p e below s₁ m 25 #[vI p1, vI p2, vI p3, vI p4, vI p5, vI ((p1 &&& (2147483647 : Int32)) % (5 : Int32)), vI (p2.toUInt32.toUInt16.toUInt32.toInt32), vI (p3.toUInt32.toUInt16.toUInt32.toInt32), vI (p4.toUInt32.toUInt16.toUInt32.toInt32), vI (p5.toUInt32.toUInt16.toUInt32.toInt32), .unset, .unset] [] _
  rw [hr102]
  show SS p e below s₁ m 25 #[vI p1, vI p2, vI p3, vI p4, vI p5, vI ((p1 &&& (2147483647 : Int32)) % (5 : Int32)), vI ch2, vI (p3.toUInt32.toUInt16.toUInt32.toInt32), vI (p4.toUInt32.toUInt16.toUInt32.toInt32), vI (p5.toUInt32.toUInt16.toUInt32.toInt32), .unset, .unset] [] _
  rw [hr103]
  show SS p e below s₁ m 25 #[vI p1, vI p2, vI p3, vI p4, vI p5, vI ((p1 &&& (2147483647 : Int32)) % (5 : Int32)), vI ch2, vI ch3, vI (p4.toUInt32.toUInt16.toUInt32.toInt32), vI (p5.toUInt32.toUInt16.toUInt32.toInt32), .unset, .unset] [] _
  rw [hr104]
  show SS p e below s₁ m 25 #[vI p1, vI p2, vI p3, vI p4, vI p5, vI ((p1 &&& (2147483647 : Int32)) % (5 : Int32)), vI ch2, vI ch3, vI ch4, vI (p5.toUInt32.toUInt16.toUInt32.toInt32), .unset, .unset] [] _
  rw [hr105]
  exact kt
 rcases own_sel5 p1 with hm | hm | hm | hm | hm
 ·skip
  have hr107 : ((p1 &&& (2147483647 : Int32)) % (5 : Int32)) = (0 : Int32) := hm
  have hL : ∀ c ∈ ([] : List Int32), ¬ c < 0 ∧ ¬ (255 : Int32) < c := fun c hc => nomatch hc
  obtain ⟨_, _, ⟨T108, L108, k108, n108⟩, -, X108, ⟨Lc108, hQ108, l108, y108, z108⟩, st108⟩ := Jvm.LawKit.callS X0 hx (y := mN56) hown (mvT hZ (tw hw 1 rfl)) (mvT hZ (tw hw 2 rfl)) (mvT hZ (tw hw 3 rfl)) (mvT hZ (tw hw 4 rfl)) (by decide) (backOf (W := 0) (rmMake0 l Z a0 hw [] (0 : Int32) ch2 ch3 ch4 ch5  h0 n0 O0 rfl ) hZ (tw hw 4 rfl) (tw hw 3 rfl) (by decide) (by decide)) (g := (mkF m 35 #[vI p1, vI p2, vI p3, vI p4, vI p5, vI 0, vI ch2, vI ch3, vI ch4, vI ch5, .unset, .unset] [(.int ch5), (.int ch4), (.int ch3), (.int ch2), (.int 0)])) rfl (by rw [hml]; rfl) (argsL := [(.int 0), (.int ch2), (.int ch3), (.int ch4), (.int ch5)]) (rest := []) (lenOf pd_0 rfl) rfl (wL _) (hb hby at_35) (fun _ _ => ⟨rfl, e0, (by decide : 0 + 1 ≤ _), (by decide : 0 + 0 ≤ _)⟩)
  dsimp only [Pt.U, Pt.locs, Pt.cells, Pt.slots] at X108 l108 y108 z108 st108 hQ108
  subst l108 y108 z108
  obtain ⟨b108, kb108, rfl, N108q, K108, gb108, V108⟩ := hQ108
  have lt108 : @LT.lt Nat _ b108 T108.heap.size := V108.lt
  have sz1_K108 := K108.1
  have N108 := Fr.app N0 N108q
  obtain ⟨T109, h109, X109, e109, E109, A109, D109, -, st109⟩ := newO X108 hx hZ hown (tw hw 6 rfl) (tw hw 7 rfl) (tw hw 8 rfl) rfl (g := (mkF m 40 #[vI p1, vI p2, vI p3, vI p4, vI p5, vI 0, vI ch2, vI ch3, vI ch4, vI ch5, vR b108, .unset] [])) rfl (hb hby at_40) (by decide) (by decide)
  obtain ⟨b109, g109⟩ : ∃ z, z = T108.heap.size := ⟨_, rfl⟩
  rw [← g109] at A109 D109 st109
  have lt109 : @LT.lt Nat _ b109 h109.size := A109.lt
  have K109 : Keep T108.heap h109 [] := (Keep.refl _ _).ext E109
  have sz2_K109 := K109.1
  have F109_value : Fld Z h109 b109 "java/lang/String" "value" "[B" .null := D109 (Or.inr (tw hw 21 rfl)) (ty := (.array .byte)) (by decide)
  have F109_coder : Fld Z h109 b109 "java/lang/String" "coder" "B" (.int 0) := D109 (Or.inr (tw hw 22 rfl)) (ty := .byte) (by decide)
  have C111 := V108.keep K109 nin0
  have O112 : Old Z n0 T108.heap := O0.keep K108 all0
  have O113 : Old Z n0 h109 := O112.keep K109 all0
  have CH114 := CHv.keep K108 (fun _ q => nomatch q) hCH
  have CH115 := CHv.keep K109 (fun _ q => nomatch q) CH114
  obtain ⟨_, _, ⟨T110, L110, k110, n110⟩, -, X110q, hSq110, hgr110, ⟨Lc110, hQ110, l110, y110, z110⟩, st110⟩ := X109.specialBackS hx (y := mN9) rfl hown (mvT hZ (tw hw 9 rfl)) (mvT hZ (tw hw 10 rfl)) (mvT hZ (tw hw 11 rfl)) (by decide) (own_backH (s := s) (vm0 := s.vm) (EL := EL1) (W := 1) (rmInit1Z l Z a0 hw [] b109 b108 kb108 [] (.int 0) h109 n0 O113 (by omega : @LE.le Nat _ n0 b109) A109 F109_value F109_coder C111) hZ (tw hw 11 rfl) (tw hw 8 rfl) (by decide) (by decide) hEW CH115) (g := (mkF m 46 #[vI p1, vI p2, vI p3, vI p4, vI p5, vI 0, vI ch2, vI ch3, vI ch4, vI ch5, vR b108, .unset] [(.ref b108), (.ref b109), (.ref b109)])) rfl (by rw [hml]; rfl) (Steps.refl _) (a := b109) (argsL := [(.ref b108)]) (rest := [(.ref b109)]) (lenOf pd_1 rfl) rfl (wL _) (hb hby at_46) (fun _ _ => ⟨rfl, e109, (by decide : 2 + 2 ≤ _), (by decide : 4 + 4 ≤ _)⟩)
  dsimp only [Pt.U, Pt.locs, Pt.cells, Pt.slots] at X110q l110 y110 z110 st110 hQ110 hSq110 hgr110
  subst l110 y110 z110
  obtain ⟨X110, hS110, hZ110, hown110⟩ := rebS (s := s) (vm0 := s.vm) hS0 (by rw [e109]; omega) X110q hSq110 hgr110 hZ hown
  obtain ⟨t110, kb110, rfl, N110q, K110, E110, Fv110, Fc110, tx110, V110⟩ := hQ110
  have lt110 : @LT.lt Nat _ t110 T110.heap.size := V110.lt
  have sz3_K110 := K110.1
  have N110 := Fr.app N108 N110q
  have O117 : Old Z n0 T110.heap := O113.keep K110 (allS (by omega) (all0))
  obtain ⟨_, _, ⟨T116, L116, k116, n116⟩, -, X116, ⟨Lc116, hQ116, l116, y116, z116⟩, st116⟩ := Jvm.LawKit.callS X110 hx (y := mN50) hown110 (mvT hZ110 (tw hw 27 rfl)) (mvT hZ110 (tw hw 28 rfl)) (mvT hZ110 (tw hw 29 rfl)) (mvT hZ110 (tw hw 30 rfl)) (by decide) (backOf (W := 0) (rmPrL l Z a0 hw [] b109 ([] : List Int32) cs0 t110 kb110 fm T110.heap n0 O117 S_CS c_CS E110 Fv110 Fc110 V110 (by simp) S_FM r_FM hL) hZ110 (tw hw 30 rfl) (tw hw 29 rfl) (by decide) (by decide)) (g := (mkF m 49 #[vI p1, vI p2, vI p3, vI p4, vI p5, vI 0, vI ch2, vI ch3, vI ch4, vI ch5, vR b108, .unset] [(.ref b109)])) rfl (by rw [hml]; rfl) (argsL := [(.ref b109)]) (rest := []) (lenOf pd_4 rfl) rfl (wL _) (hb hby at_49) (fun _ _ => ⟨rfl, rfl, (by decide : 4 + 5 ≤ _), (by decide : 8 + 92 ≤ _)⟩)
  dsimp only [Pt.U, Pt.locs, Pt.cells, Pt.slots] at X116 l116 y116 z116 st116 hQ116
  subst l116 y116 z116
  obtain ⟨x116, t116, kb116, rfl, N116q, K116, gx116, E116, Fv116, Fc116, gt116, tx116, V116⟩ := hQ116
  have ltx116 : @LT.lt Nat _ x116 T116.heap.size := E116.lt
  have ltt116 : @LT.lt Nat _ t116 T116.heap.size := V116.lt
  have sz4_K116 := K116.1
  have N116 := Fr.app N110 N116q
  have pre118 : ∀ t, SS p e below T116 m 52 #[vI p1, vI p2, vI p3, vI p4, vI p5, vI 0, vI ch2, vI ch3, vI ch4, vI ch5, vR b108, .unset] [(.ref x116)] t → SE p e below s₁ m #[(.int p1), (.int p2), (.int p3), (.int p4), (.int p5)] maxLocals t := by
   intro t kt
   refine pre106 _ ?_
   show SS p e below s₁ m 25 #[vI p1, vI p2, vI p3, vI p4, vI p5, vI ((p1 &&& (2147483647 : Int32)) % (5 : Int32)), vI ch2, vI ch3, vI ch4, vI ch5, .unset, .unset] [] _
   rw [hr107]
   refine XS.iload X0.here hx rfl (hb hby at_25) rfl ?_
   refine XS.iload X0.here hx rfl (hb hby at_27) rfl ?_
   refine XS.iload X0.here hx rfl (hb hby at_29) rfl ?_
   refine XS.iload X0.here hx rfl (hb hby at_31) rfl ?_
   refine XS.iload X0.here hx rfl (hb hby at_33) rfl ?_
   show SS p e below s₁ m 35 #[vI p1, vI p2, vI p3, vI p4, vI p5, vI 0, vI ch2, vI ch3, vI ch4, vI ch5, .unset, .unset] [(.int ch5), (.int ch4), (.int ch3), (.int ch2), (.int 0)] _
   refine st108 _ ?_
   refine XS.astore X108.here hx rfl (hb hby at_38) rfl rfl (l' := #[vI p1, vI p2, vI p3, vI p4, vI p5, vI 0, vI ch2, vI ch3, vI ch4, vI ch5, vR b108, .unset]) rfl ?_
   show SS p e below T108 m 40 #[vI p1, vI p2, vI p3, vI p4, vI p5, vI 0, vI ch2, vI ch3, vI ch4, vI ch5, vR b108, .unset] [] _
   refine st109 _ ?_
   refine XS.dup X109.here hx rfl (hb hby at_43) rfl rfl ?_
   refine XS.aload X109.here hx rfl (hb hby at_44) rfl rfl ?_
   show SS p e below T109 m 46 #[vI p1, vI p2, vI p3, vI p4, vI p5, vI 0, vI ch2, vI ch3, vI ch4, vI ch5, vR b108, .unset] [(.ref b108), (.ref b109), (.ref b109)] _
   refine st110.trans ?_
   show SS p e below T110 m 49 #[vI p1, vI p2, vI p3, vI p4, vI p5, vI 0, vI ch2, vI ch3, vI ch4, vI ch5, vR b108, .unset] [(.ref b109)] _
   refine st116 _ ?_
   exact kt
  have O120 : Old Z n0 T116.heap := O117.keep K116 all0
  obtain ⟨T119, h119, L119, X119, e119, N119, H119, st119⟩ := tnTailL p1 p2 p3 p4 p5 ch2 ch3 ch4 ch5 b108 x116 (([] : List Int32).map expC) cs0 t116 kb116 fm 0 (X116.more (by decide) (by decide)) hx hZ110 hw hby hml hown110 rfl O120 N116 S_CS c_CS E116 Fv116 Fc116 V116 (by simp) S_FM r_FM (own_mapL hL) rfl rh2 rh3 rh4 rh5 (fun q => absurd q (by decide)) (fun q => absurd q (by decide)) (fun q => absurd q (by decide)) (fun q => absurd q (by decide))
  subst H119
  obtain ⟨fs, hr, hrun, hended, eR, eW, eI, eS⟩ := Stand.leaveW (s := s) (vm₁ := T110.vm) X119 hS110 (by rw [e119]; omega) (v := some (.int 1)) (nvr Bd.returns)
  refine ⟨_, _, pre118 _ ?_, hrun, hended, _, _, rfl, ?_, eR, eW, eI, eS.mono (by decide) (by decide)⟩
  ·skip
   refine st119 _ ?_
   show SS p e below T119 m 128 #[vI p1, vI p2, vI p3, vI p4, vI p5, vI 0, vI ch2, vI ch3, vI ch4, vI ch5, vR b108, vR x116] [(.int 1)] _
   exact retN X119 hx (t := .boolean) Bd.returns (by simp) (hb hby at_128) hr
  ·show Q_rm0 Z p1 p2 p3 p4 p5 cs0 fm h0 n0 _ T119.heap _
   rw [e119]
   exact ⟨rfl, N119⟩
 ·skip
  have hr121 : ((p1 &&& (2147483647 : Int32)) % (5 : Int32)) = (1 : Int32) := hm
  have hcs : ∀ c ∈ ([ch2] : List Int32), ¬ c < 0 ∧ ¬ (65535 : Int32) < c := (by intro c hc; simp only [List.mem_cons, List.not_mem_nil, or_false] at hc; rcases hc with rfl <;> assumption)
  obtain ⟨_, _, ⟨T122, L122, k122, n122⟩, -, X122, ⟨Lc122, hQ122, l122, y122, z122⟩, st122⟩ := Jvm.LawKit.callS X0 hx (y := mN56) hown (mvT hZ (tw hw 1 rfl)) (mvT hZ (tw hw 2 rfl)) (mvT hZ (tw hw 3 rfl)) (mvT hZ (tw hw 4 rfl)) (by decide) (backOf (W := 0) (rmMake1 l Z a0 hw [] (1 : Int32) ch2 ch3 ch4 ch5  h0 n0 O0 rfl rh2) hZ (tw hw 4 rfl) (tw hw 3 rfl) (by decide) (by decide)) (g := (mkF m 35 #[vI p1, vI p2, vI p3, vI p4, vI p5, vI 1, vI ch2, vI ch3, vI ch4, vI ch5, .unset, .unset] [(.int ch5), (.int ch4), (.int ch3), (.int ch2), (.int 1)])) rfl (by rw [hml]; rfl) (argsL := [(.int 1), (.int ch2), (.int ch3), (.int ch4), (.int ch5)]) (rest := []) (lenOf pd_0 rfl) rfl (wL _) (hb hby at_35) (fun _ _ => ⟨rfl, e0, (by decide : 0 + 1 ≤ _), (by decide : 0 + 1 ≤ _)⟩)
  dsimp only [Pt.U, Pt.locs, Pt.cells, Pt.slots] at X122 l122 y122 z122 st122 hQ122
  subst l122 y122 z122
  obtain ⟨b122, kb122, rfl, N122q, K122, gb122, V122⟩ := hQ122
  have lt122 : @LT.lt Nat _ b122 T122.heap.size := V122.lt
  have sz1_K122 := K122.1
  have N122 := Fr.app N0 N122q
  have pre123 : ∀ t, SS p e below T122 m 40 #[vI p1, vI p2, vI p3, vI p4, vI p5, vI 1, vI ch2, vI ch3, vI ch4, vI ch5, vR b122, .unset] [] t → SE p e below s₁ m #[(.int p1), (.int p2), (.int p3), (.int p4), (.int p5)] maxLocals t := by
   intro t kt
   refine pre106 _ ?_
   show SS p e below s₁ m 25 #[vI p1, vI p2, vI p3, vI p4, vI p5, vI ((p1 &&& (2147483647 : Int32)) % (5 : Int32)), vI ch2, vI ch3, vI ch4, vI ch5, .unset, .unset] [] _
   rw [hr121]
   refine XS.iload X0.here hx rfl (hb hby at_25) rfl ?_
   refine XS.iload X0.here hx rfl (hb hby at_27) rfl ?_
   refine XS.iload X0.here hx rfl (hb hby at_29) rfl ?_
   refine XS.iload X0.here hx rfl (hb hby at_31) rfl ?_
   refine XS.iload X0.here hx rfl (hb hby at_33) rfl ?_
   show SS p e below s₁ m 35 #[vI p1, vI p2, vI p3, vI p4, vI p5, vI 1, vI ch2, vI ch3, vI ch4, vI ch5, .unset, .unset] [(.int ch5), (.int ch4), (.int ch3), (.int ch2), (.int 1)] _
   refine st122 _ ?_
   refine XS.astore X122.here hx rfl (hb hby at_38) rfl rfl (l' := #[vI p1, vI p2, vI p3, vI p4, vI p5, vI 1, vI ch2, vI ch3, vI ch4, vI ch5, vR b122, .unset]) rfl ?_
   exact kt
  rcases own_big ([ch2] : List Int32) with hL | ⟨m1, hj, hpre, hend⟩
  ·skip
   have hL := own_rngL hcs hL
   obtain ⟨T124, h124, X124, e124, E124, A124, D124, -, st124⟩ := newO X122 hx hZ hown (tw hw 6 rfl) (tw hw 7 rfl) (tw hw 8 rfl) rfl (g := (mkF m 40 #[vI p1, vI p2, vI p3, vI p4, vI p5, vI 1, vI ch2, vI ch3, vI ch4, vI ch5, vR b122, .unset] [])) rfl (hb hby at_40) (by decide) (by decide)
   obtain ⟨b124, g124⟩ : ∃ z, z = T122.heap.size := ⟨_, rfl⟩
   rw [← g124] at A124 D124 st124
   have lt124 : @LT.lt Nat _ b124 h124.size := A124.lt
   have K124 : Keep T122.heap h124 [] := (Keep.refl _ _).ext E124
   have sz2_K124 := K124.1
   have F124_value : Fld Z h124 b124 "java/lang/String" "value" "[B" .null := D124 (Or.inr (tw hw 21 rfl)) (ty := (.array .byte)) (by decide)
   have F124_coder : Fld Z h124 b124 "java/lang/String" "coder" "B" (.int 0) := D124 (Or.inr (tw hw 22 rfl)) (ty := .byte) (by decide)
   have C126 := V122.keep K124 nin0
   have O127 : Old Z n0 T122.heap := O0.keep K122 all0
   have O128 : Old Z n0 h124 := O127.keep K124 all0
   obtain ⟨_, _, ⟨T125, L125, k125, n125⟩, -, X125, ⟨Lc125, hQ125, l125, y125, z125⟩, st125⟩ := X124.specialBack hx (y := mN9) rfl hown (mvT hZ (tw hw 9 rfl)) (mvT hZ (tw hw 10 rfl)) (mvT hZ (tw hw 11 rfl)) (by decide) (StrChars.Road.backV (W := 1) hZ hws (kI := 4) (tw hw 7 rfl) (cs := ([ch2] : List Int32)) (bs := ([ch2] : List Int32).map (fun c => c.toInt8.toInt32)) (n := 1) (by omega : @LE.le Nat _ n0 b124) (by omega) A124 F124_value F124_coder C126 (Sta.ext O128.2 S_CS) c_CS rfl rfl (by decide) (by decide) hL rfl (by decide) (by decide)) (g := (mkF m 46 #[vI p1, vI p2, vI p3, vI p4, vI p5, vI 1, vI ch2, vI ch3, vI ch4, vI ch5, vR b122, .unset] [(.ref b122), (.ref b124), (.ref b124)])) rfl (by rw [hml]; rfl) (Steps.refl _) (a := b124) (argsL := [(.ref b122)]) (rest := [(.ref b124)]) (lenOf pd_1 rfl) rfl (wL _) (hb hby at_46) (fun _ _ => ⟨rfl, e124, (by decide : 2 + 1 ≤ _), (by decide : 5 + 1 ≤ _)⟩)
   dsimp only [Pt.U, Pt.locs, Pt.cells, Pt.slots] at X125 l125 y125 z125 st125 hQ125
   subst l125 y125 z125
   obtain ⟨rfl, N125q, K125, E125, C125, t125, kb125, ge125, gh125, tx125, Vf125, Av125⟩ := hQ125
   have lt125 : @LT.lt Nat _ t125 T125.heap.size := Av125.lt
   have sz3_K125 := K125.1
   have N125 := Fr.app N122 N125q
   have O130 : Old Z n0 T125.heap := O128.keep K125 (allS (by omega) (all0))
   obtain ⟨_, _, ⟨T129, L129, k129, n129⟩, -, X129, ⟨Lc129, hQ129, l129, y129, z129⟩, st129⟩ := Jvm.LawKit.callS X125 hx (y := mN50) hown (mvT hZ (tw hw 27 rfl)) (mvT hZ (tw hw 28 rfl)) (mvT hZ (tw hw 29 rfl)) (mvT hZ (tw hw 30 rfl)) (by decide) (backOf (W := 0) (rmPrL l Z a0 hw [] b124 ([ch2] : List Int32) cs0 t125 kb125 fm T125.heap n0 O130 S_CS c_CS E125 Vf125 C125 Av125 (by simp) S_FM r_FM hL) hZ (tw hw 30 rfl) (tw hw 29 rfl) (by decide) (by decide)) (g := (mkF m 49 #[vI p1, vI p2, vI p3, vI p4, vI p5, vI 1, vI ch2, vI ch3, vI ch4, vI ch5, vR b122, .unset] [(.ref b124)])) rfl (by rw [hml]; rfl) (argsL := [(.ref b124)]) (rest := []) (lenOf pd_4 rfl) rfl (wL _) (hb hby at_49) (fun _ _ => ⟨rfl, rfl, (by decide : 3 + 5 ≤ _), (by decide : 6 + 92 ≤ _)⟩)
   dsimp only [Pt.U, Pt.locs, Pt.cells, Pt.slots] at X129 l129 y129 z129 st129 hQ129
   subst l129 y129 z129
   obtain ⟨x129, t129, kb129, rfl, N129q, K129, gx129, E129, Fv129, Fc129, gt129, tx129, V129⟩ := hQ129
   have ltx129 : @LT.lt Nat _ x129 T129.heap.size := E129.lt
   have ltt129 : @LT.lt Nat _ t129 T129.heap.size := V129.lt
   have sz4_K129 := K129.1
   have N129 := Fr.app N125 N129q
   have pre131 : ∀ t, SS p e below T129 m 52 #[vI p1, vI p2, vI p3, vI p4, vI p5, vI 1, vI ch2, vI ch3, vI ch4, vI ch5, vR b122, .unset] [(.ref x129)] t → SE p e below s₁ m #[(.int p1), (.int p2), (.int p3), (.int p4), (.int p5)] maxLocals t := by
    intro t kt
    refine pre123 _ ?_
    show SS p e below T122 m 40 #[vI p1, vI p2, vI p3, vI p4, vI p5, vI 1, vI ch2, vI ch3, vI ch4, vI ch5, vR b122, .unset] [] _
    refine st124 _ ?_
    refine XS.dup X124.here hx rfl (hb hby at_43) rfl rfl ?_
    refine XS.aload X124.here hx rfl (hb hby at_44) rfl rfl ?_
    show SS p e below T124 m 46 #[vI p1, vI p2, vI p3, vI p4, vI p5, vI 1, vI ch2, vI ch3, vI ch4, vI ch5, vR b122, .unset] [(.ref b122), (.ref b124), (.ref b124)] _
    refine st125.trans ?_
    show SS p e below T125 m 49 #[vI p1, vI p2, vI p3, vI p4, vI p5, vI 1, vI ch2, vI ch3, vI ch4, vI ch5, vR b122, .unset] [(.ref b124)] _
    refine st129 _ ?_
    exact kt
   have O133 : Old Z n0 T129.heap := O130.keep K129 all0
   obtain ⟨T132, h132, L132, X132, e132, N132, H132, st132⟩ := tnTailL p1 p2 p3 p4 p5 ch2 ch3 ch4 ch5 b122 x129 (([ch2] : List Int32).map expC) cs0 t129 kb129 fm 1 (X129.more (by decide) (by decide)) hx hZ hw hby hml hown rfl O133 N129 S_CS c_CS E129 Fv129 Fc129 V129 (by simp) S_FM r_FM (own_mapL hL) rfl rh2 rh3 rh4 rh5 (fun _ => rfl) (fun q => absurd q (by decide)) (fun q => absurd q (by decide)) (fun q => absurd q (by decide))
   subst H132
   obtain ⟨fs, hr, hrun, hended, eR, eW, eI, eS⟩ := Stand.leaveW (s := s) (vm₁ := s.vm) X132 hS0 (by rw [e132]; omega) (v := some (.int 1)) (nvr Bd.returns)
   refine ⟨_, _, pre131 _ ?_, hrun, hended, _, _, rfl, ?_, eR, eW, eI, eS.mono (by decide) (by decide)⟩
   ·skip
    refine st132 _ ?_
    show SS p e below T132 m 128 #[vI p1, vI p2, vI p3, vI p4, vI p5, vI 1, vI ch2, vI ch3, vI ch4, vI ch5, vR b122, vR x129] [(.int 1)] _
    exact retN X132 hx (t := .boolean) Bd.returns (by simp) (hb hby at_128) hr
   ·show Q_rm0 Z p1 p2 p3 p4 p5 cs0 fm h0 n0 _ T132.heap _
    rw [e132]
    exact ⟨rfl, N132⟩
  ·skip
   obtain ⟨T134, h134, X134, e134, E134, A134, D134, -, st134⟩ := newO X122 hx hZ hown (tw hw 6 rfl) (tw hw 7 rfl) (tw hw 8 rfl) rfl (g := (mkF m 40 #[vI p1, vI p2, vI p3, vI p4, vI p5, vI 1, vI ch2, vI ch3, vI ch4, vI ch5, vR b122, .unset] [])) rfl (hb hby at_40) (by decide) (by decide)
   obtain ⟨b134, g134⟩ : ∃ z, z = T122.heap.size := ⟨_, rfl⟩
   rw [← g134] at A134 D134 st134
   have lt134 : @LT.lt Nat _ b134 h134.size := A134.lt
   have K134 : Keep T122.heap h134 [] := (Keep.refl _ _).ext E134
   have sz2_K134 := K134.1
   have F134_value : Fld Z h134 b134 "java/lang/String" "value" "[B" .null := D134 (Or.inr (tw hw 21 rfl)) (ty := (.array .byte)) (by decide)
   have F134_coder : Fld Z h134 b134 "java/lang/String" "coder" "B" (.int 0) := D134 (Or.inr (tw hw 22 rfl)) (ty := .byte) (by decide)
   have C136 := V122.keep K134 nin0
   have O137 : Old Z n0 T122.heap := O0.keep K122 all0
   have O138 : Old Z n0 h134 := O137.keep K134 all0
   obtain ⟨_, _, ⟨T135, L135, k135, n135⟩, -, X135, ⟨Lc135, hQ135, l135, y135, z135⟩, st135⟩ := X134.specialBack hx (y := mN9) rfl hown (mvT hZ (tw hw 9 rfl)) (mvT hZ (tw hw 10 rfl)) (mvT hZ (tw hw 11 rfl)) (by decide) (backOf (W := 1) (rmInit1U l Z a0 hw [] b134 b122 ([ch2] : List Int32) kb122 (.int 0) m1 cs0 h134 n0 O138 S_CS c_CS S_AD S_HI S_LO C136 (by simp) hcs hj hpre hend (by omega : @LE.le Nat _ n0 b134) A134 F134_value F134_coder (by omega)) hZ (tw hw 11 rfl) (tw hw 8 rfl) (by decide) (by decide)) (g := (mkF m 46 #[vI p1, vI p2, vI p3, vI p4, vI p5, vI 1, vI ch2, vI ch3, vI ch4, vI ch5, vR b122, .unset] [(.ref b122), (.ref b134), (.ref b134)])) rfl (by rw [hml]; rfl) (Steps.refl _) (a := b134) (argsL := [(.ref b122)]) (rest := [(.ref b134)]) (lenOf pd_1 rfl) rfl (wL _) (hb hby at_46) (fun _ _ => ⟨rfl, e134, (by decide : 2 + 2 ≤ _), (by decide : 5 + 44 ≤ _)⟩)
   dsimp only [Pt.U, Pt.locs, Pt.cells, Pt.slots] at X135 l135 y135 z135 st135 hQ135
   subst l135 y135 z135
   obtain ⟨t135, kb135, rfl, N135q, K135, E135, Fv135, Fc135, gt135, tx135, V135⟩ := hQ135
   have lt135 : @LT.lt Nat _ t135 T135.heap.size := V135.lt
   have sz3_K135 := K135.1
   have N135 := Fr.app N122 N135q
   have O140 : Old Z n0 T135.heap := O138.keep K135 (allS (by omega) (all0))
   obtain ⟨_, _, ⟨T139, L139, k139, n139⟩, -, X139, ⟨Lc139, hQ139, l139, y139, z139⟩, st139⟩ := Jvm.LawKit.callS X135 hx (y := mN50) hown (mvT hZ (tw hw 27 rfl)) (mvT hZ (tw hw 28 rfl)) (mvT hZ (tw hw 29 rfl)) (mvT hZ (tw hw 30 rfl)) (by decide) (backOf (W := 0) (rmPrU l Z a0 hw [] b134 ([ch2] : List Int32) cs0 t135 kb135 fm m1 T135.heap n0 O140 S_CS c_CS E135 Fv135 Fc135 V135 (by simp) S_FM r_FM hcs S_AD S_HI S_LO hj hpre hend) hZ (tw hw 30 rfl) (tw hw 29 rfl) (by decide) (by decide)) (g := (mkF m 49 #[vI p1, vI p2, vI p3, vI p4, vI p5, vI 1, vI ch2, vI ch3, vI ch4, vI ch5, vR b122, .unset] [(.ref b134)])) rfl (by rw [hml]; rfl) (argsL := [(.ref b134)]) (rest := []) (lenOf pd_4 rfl) rfl (wL _) (hb hby at_49) (fun _ _ => ⟨rfl, rfl, (by decide : 4 + 5 ≤ _), (by decide : 49 + 92 ≤ _)⟩)
   dsimp only [Pt.U, Pt.locs, Pt.cells, Pt.slots] at X139 l139 y139 z139 st139 hQ139
   subst l139 y139 z139
   obtain ⟨x139, t139, kb139, rfl, N139q, K139, gx139, E139, Fv139, Fc139, gt139, tx139, V139⟩ := hQ139
   have ltx139 : @LT.lt Nat _ x139 T139.heap.size := E139.lt
   have ltt139 : @LT.lt Nat _ t139 T139.heap.size := V139.lt
   have sz4_K139 := K139.1
   have N139 := Fr.app N135 N139q
   have pre141 : ∀ t, SS p e below T139 m 52 #[vI p1, vI p2, vI p3, vI p4, vI p5, vI 1, vI ch2, vI ch3, vI ch4, vI ch5, vR b122, .unset] [(.ref x139)] t → SE p e below s₁ m #[(.int p1), (.int p2), (.int p3), (.int p4), (.int p5)] maxLocals t := by
    intro t kt
    refine pre123 _ ?_
    show SS p e below T122 m 40 #[vI p1, vI p2, vI p3, vI p4, vI p5, vI 1, vI ch2, vI ch3, vI ch4, vI ch5, vR b122, .unset] [] _
    refine st134 _ ?_
    refine XS.dup X134.here hx rfl (hb hby at_43) rfl rfl ?_
    refine XS.aload X134.here hx rfl (hb hby at_44) rfl rfl ?_
    show SS p e below T134 m 46 #[vI p1, vI p2, vI p3, vI p4, vI p5, vI 1, vI ch2, vI ch3, vI ch4, vI ch5, vR b122, .unset] [(.ref b122), (.ref b134), (.ref b134)] _
    refine st135.trans ?_
    show SS p e below T135 m 49 #[vI p1, vI p2, vI p3, vI p4, vI p5, vI 1, vI ch2, vI ch3, vI ch4, vI ch5, vR b122, .unset] [(.ref b134)] _
    refine st139 _ ?_
    exact kt
   have O143 : Old Z n0 T139.heap := O140.keep K139 all0
   obtain ⟨T142, h142, L142, X142, e142, N142, H142, st142⟩ := tnTailU p1 p2 p3 p4 p5 ch2 ch3 ch4 ch5 b122 x139 (([ch2] : List Int32).map expC) cs0 t139 kb139 fm 1 (X139.more (by decide) (by decide)) hx hZ hw hby hml hown rfl O143 N139 S_CS c_CS E139 Fv139 Fc139 V139 (by simp) S_FM r_FM (own_mapU hcs) S_AD S_HI S_LO rfl rh2 rh3 rh4 rh5 (fun _ => rfl) (fun q => absurd q (by decide)) (fun q => absurd q (by decide)) (fun q => absurd q (by decide))
   subst H142
   obtain ⟨fs, hr, hrun, hended, eR, eW, eI, eS⟩ := Stand.leaveW (s := s) (vm₁ := s.vm) X142 hS0 (by rw [e142]; omega) (v := some (.int 1)) (nvr Bd.returns)
   refine ⟨_, _, pre141 _ ?_, hrun, hended, _, _, rfl, ?_, eR, eW, eI, eS.mono (by decide) (by decide)⟩
   ·skip
    refine st142 _ ?_
    show SS p e below T142 m 128 #[vI p1, vI p2, vI p3, vI p4, vI p5, vI 1, vI ch2, vI ch3, vI ch4, vI ch5, vR b122, vR x139] [(.int 1)] _
    exact retN X142 hx (t := .boolean) Bd.returns (by simp) (hb hby at_128) hr
   ·show Q_rm0 Z p1 p2 p3 p4 p5 cs0 fm h0 n0 _ T142.heap _
    rw [e142]
    exact ⟨rfl, N142⟩
 ·skip
  have hr144 : ((p1 &&& (2147483647 : Int32)) % (5 : Int32)) = (2 : Int32) := hm
  have hcs : ∀ c ∈ ([ch2, ch3] : List Int32), ¬ c < 0 ∧ ¬ (65535 : Int32) < c := (by intro c hc; simp only [List.mem_cons, List.not_mem_nil, or_false] at hc; rcases hc with rfl | rfl <;> assumption)
  obtain ⟨_, _, ⟨T145, L145, k145, n145⟩, -, X145, ⟨Lc145, hQ145, l145, y145, z145⟩, st145⟩ := Jvm.LawKit.callS X0 hx (y := mN56) hown (mvT hZ (tw hw 1 rfl)) (mvT hZ (tw hw 2 rfl)) (mvT hZ (tw hw 3 rfl)) (mvT hZ (tw hw 4 rfl)) (by decide) (backOf (W := 0) (rmMake2 l Z a0 hw [] (2 : Int32) ch2 ch3 ch4 ch5  h0 n0 O0 rfl rh2 rh3) hZ (tw hw 4 rfl) (tw hw 3 rfl) (by decide) (by decide)) (g := (mkF m 35 #[vI p1, vI p2, vI p3, vI p4, vI p5, vI 2, vI ch2, vI ch3, vI ch4, vI ch5, .unset, .unset] [(.int ch5), (.int ch4), (.int ch3), (.int ch2), (.int 2)])) rfl (by rw [hml]; rfl) (argsL := [(.int 2), (.int ch2), (.int ch3), (.int ch4), (.int ch5)]) (rest := []) (lenOf pd_0 rfl) rfl (wL _) (hb hby at_35) (fun _ _ => ⟨rfl, e0, (by decide : 0 + 1 ≤ _), (by decide : 0 + 2 ≤ _)⟩)
  dsimp only [Pt.U, Pt.locs, Pt.cells, Pt.slots] at X145 l145 y145 z145 st145 hQ145
  subst l145 y145 z145
  obtain ⟨b145, kb145, rfl, N145q, K145, gb145, V145⟩ := hQ145
  have lt145 : @LT.lt Nat _ b145 T145.heap.size := V145.lt
  have sz1_K145 := K145.1
  have N145 := Fr.app N0 N145q
  have pre146 : ∀ t, SS p e below T145 m 40 #[vI p1, vI p2, vI p3, vI p4, vI p5, vI 2, vI ch2, vI ch3, vI ch4, vI ch5, vR b145, .unset] [] t → SE p e below s₁ m #[(.int p1), (.int p2), (.int p3), (.int p4), (.int p5)] maxLocals t := by
   intro t kt
   refine pre106 _ ?_
   show SS p e below s₁ m 25 #[vI p1, vI p2, vI p3, vI p4, vI p5, vI ((p1 &&& (2147483647 : Int32)) % (5 : Int32)), vI ch2, vI ch3, vI ch4, vI ch5, .unset, .unset] [] _
   rw [hr144]
   refine XS.iload X0.here hx rfl (hb hby at_25) rfl ?_
   refine XS.iload X0.here hx rfl (hb hby at_27) rfl ?_
   refine XS.iload X0.here hx rfl (hb hby at_29) rfl ?_
   refine XS.iload X0.here hx rfl (hb hby at_31) rfl ?_
   refine XS.iload X0.here hx rfl (hb hby at_33) rfl ?_
   show SS p e below s₁ m 35 #[vI p1, vI p2, vI p3, vI p4, vI p5, vI 2, vI ch2, vI ch3, vI ch4, vI ch5, .unset, .unset] [(.int ch5), (.int ch4), (.int ch3), (.int ch2), (.int 2)] _
   refine st145 _ ?_
   refine XS.astore X145.here hx rfl (hb hby at_38) rfl rfl (l' := #[vI p1, vI p2, vI p3, vI p4, vI p5, vI 2, vI ch2, vI ch3, vI ch4, vI ch5, vR b145, .unset]) rfl ?_
   exact kt
  rcases own_big ([ch2, ch3] : List Int32) with hL | ⟨m1, hj, hpre, hend⟩
  ·skip
   have hL := own_rngL hcs hL
   obtain ⟨T147, h147, X147, e147, E147, A147, D147, -, st147⟩ := newO X145 hx hZ hown (tw hw 6 rfl) (tw hw 7 rfl) (tw hw 8 rfl) rfl (g := (mkF m 40 #[vI p1, vI p2, vI p3, vI p4, vI p5, vI 2, vI ch2, vI ch3, vI ch4, vI ch5, vR b145, .unset] [])) rfl (hb hby at_40) (by decide) (by decide)
   obtain ⟨b147, g147⟩ : ∃ z, z = T145.heap.size := ⟨_, rfl⟩
   rw [← g147] at A147 D147 st147
   have lt147 : @LT.lt Nat _ b147 h147.size := A147.lt
   have K147 : Keep T145.heap h147 [] := (Keep.refl _ _).ext E147
   have sz2_K147 := K147.1
   have F147_value : Fld Z h147 b147 "java/lang/String" "value" "[B" .null := D147 (Or.inr (tw hw 21 rfl)) (ty := (.array .byte)) (by decide)
   have F147_coder : Fld Z h147 b147 "java/lang/String" "coder" "B" (.int 0) := D147 (Or.inr (tw hw 22 rfl)) (ty := .byte) (by decide)
   have C149 := V145.keep K147 nin0
   have O150 : Old Z n0 T145.heap := O0.keep K145 all0
   have O151 : Old Z n0 h147 := O150.keep K147 all0
   obtain ⟨_, _, ⟨T148, L148, k148, n148⟩, -, X148, ⟨Lc148, hQ148, l148, y148, z148⟩, st148⟩ := X147.specialBack hx (y := mN9) rfl hown (mvT hZ (tw hw 9 rfl)) (mvT hZ (tw hw 10 rfl)) (mvT hZ (tw hw 11 rfl)) (by decide) (StrChars.Road.backV (W := 1) hZ hws (kI := 4) (tw hw 7 rfl) (cs := ([ch2, ch3] : List Int32)) (bs := ([ch2, ch3] : List Int32).map (fun c => c.toInt8.toInt32)) (n := 2) (by omega : @LE.le Nat _ n0 b147) (by omega) A147 F147_value F147_coder C149 (Sta.ext O151.2 S_CS) c_CS rfl rfl (by decide) (by decide) hL rfl (by decide) (by decide)) (g := (mkF m 46 #[vI p1, vI p2, vI p3, vI p4, vI p5, vI 2, vI ch2, vI ch3, vI ch4, vI ch5, vR b145, .unset] [(.ref b145), (.ref b147), (.ref b147)])) rfl (by rw [hml]; rfl) (Steps.refl _) (a := b147) (argsL := [(.ref b145)]) (rest := [(.ref b147)]) (lenOf pd_1 rfl) rfl (wL _) (hb hby at_46) (fun _ _ => ⟨rfl, e147, (by decide : 2 + 1 ≤ _), (by decide : 6 + 2 ≤ _)⟩)
   dsimp only [Pt.U, Pt.locs, Pt.cells, Pt.slots] at X148 l148 y148 z148 st148 hQ148
   subst l148 y148 z148
   obtain ⟨rfl, N148q, K148, E148, C148, t148, kb148, ge148, gh148, tx148, Vf148, Av148⟩ := hQ148
   have lt148 : @LT.lt Nat _ t148 T148.heap.size := Av148.lt
   have sz3_K148 := K148.1
   have N148 := Fr.app N145 N148q
   have O153 : Old Z n0 T148.heap := O151.keep K148 (allS (by omega) (all0))
   obtain ⟨_, _, ⟨T152, L152, k152, n152⟩, -, X152, ⟨Lc152, hQ152, l152, y152, z152⟩, st152⟩ := Jvm.LawKit.callS X148 hx (y := mN50) hown (mvT hZ (tw hw 27 rfl)) (mvT hZ (tw hw 28 rfl)) (mvT hZ (tw hw 29 rfl)) (mvT hZ (tw hw 30 rfl)) (by decide) (backOf (W := 0) (rmPrL l Z a0 hw [] b147 ([ch2, ch3] : List Int32) cs0 t148 kb148 fm T148.heap n0 O153 S_CS c_CS E148 Vf148 C148 Av148 (by simp) S_FM r_FM hL) hZ (tw hw 30 rfl) (tw hw 29 rfl) (by decide) (by decide)) (g := (mkF m 49 #[vI p1, vI p2, vI p3, vI p4, vI p5, vI 2, vI ch2, vI ch3, vI ch4, vI ch5, vR b145, .unset] [(.ref b147)])) rfl (by rw [hml]; rfl) (argsL := [(.ref b147)]) (rest := []) (lenOf pd_4 rfl) rfl (wL _) (hb hby at_49) (fun _ _ => ⟨rfl, rfl, (by decide : 3 + 5 ≤ _), (by decide : 8 + 92 ≤ _)⟩)
   dsimp only [Pt.U, Pt.locs, Pt.cells, Pt.slots] at X152 l152 y152 z152 st152 hQ152
   subst l152 y152 z152
   obtain ⟨x152, t152, kb152, rfl, N152q, K152, gx152, E152, Fv152, Fc152, gt152, tx152, V152⟩ := hQ152
   have ltx152 : @LT.lt Nat _ x152 T152.heap.size := E152.lt
   have ltt152 : @LT.lt Nat _ t152 T152.heap.size := V152.lt
   have sz4_K152 := K152.1
   have N152 := Fr.app N148 N152q
   have pre154 : ∀ t, SS p e below T152 m 52 #[vI p1, vI p2, vI p3, vI p4, vI p5, vI 2, vI ch2, vI ch3, vI ch4, vI ch5, vR b145, .unset] [(.ref x152)] t → SE p e below s₁ m #[(.int p1), (.int p2), (.int p3), (.int p4), (.int p5)] maxLocals t := by
    intro t kt
    refine pre146 _ ?_
    show SS p e below T145 m 40 #[vI p1, vI p2, vI p3, vI p4, vI p5, vI 2, vI ch2, vI ch3, vI ch4, vI ch5, vR b145, .unset] [] _
    refine st147 _ ?_
    refine XS.dup X147.here hx rfl (hb hby at_43) rfl rfl ?_
    refine XS.aload X147.here hx rfl (hb hby at_44) rfl rfl ?_
    show SS p e below T147 m 46 #[vI p1, vI p2, vI p3, vI p4, vI p5, vI 2, vI ch2, vI ch3, vI ch4, vI ch5, vR b145, .unset] [(.ref b145), (.ref b147), (.ref b147)] _
    refine st148.trans ?_
    show SS p e below T148 m 49 #[vI p1, vI p2, vI p3, vI p4, vI p5, vI 2, vI ch2, vI ch3, vI ch4, vI ch5, vR b145, .unset] [(.ref b147)] _
    refine st152 _ ?_
    exact kt
   have O156 : Old Z n0 T152.heap := O153.keep K152 all0
   obtain ⟨T155, h155, L155, X155, e155, N155, H155, st155⟩ := tnTailL p1 p2 p3 p4 p5 ch2 ch3 ch4 ch5 b145 x152 (([ch2, ch3] : List Int32).map expC) cs0 t152 kb152 fm 2 (X152.more (by decide) (by decide)) hx hZ hw hby hml hown rfl O156 N152 S_CS c_CS E152 Fv152 Fc152 V152 (by simp) S_FM r_FM (own_mapL hL) rfl rh2 rh3 rh4 rh5 (fun _ => rfl) (fun _ => rfl) (fun q => absurd q (by decide)) (fun q => absurd q (by decide))
   subst H155
   obtain ⟨fs, hr, hrun, hended, eR, eW, eI, eS⟩ := Stand.leaveW (s := s) (vm₁ := s.vm) X155 hS0 (by rw [e155]; omega) (v := some (.int 1)) (nvr Bd.returns)
   refine ⟨_, _, pre154 _ ?_, hrun, hended, _, _, rfl, ?_, eR, eW, eI, eS.mono (by decide) (by decide)⟩
   ·skip
    refine st155 _ ?_
    show SS p e below T155 m 128 #[vI p1, vI p2, vI p3, vI p4, vI p5, vI 2, vI ch2, vI ch3, vI ch4, vI ch5, vR b145, vR x152] [(.int 1)] _
    exact retN X155 hx (t := .boolean) Bd.returns (by simp) (hb hby at_128) hr
   ·show Q_rm0 Z p1 p2 p3 p4 p5 cs0 fm h0 n0 _ T155.heap _
    rw [e155]
    exact ⟨rfl, N155⟩
  ·skip
   obtain ⟨T157, h157, X157, e157, E157, A157, D157, -, st157⟩ := newO X145 hx hZ hown (tw hw 6 rfl) (tw hw 7 rfl) (tw hw 8 rfl) rfl (g := (mkF m 40 #[vI p1, vI p2, vI p3, vI p4, vI p5, vI 2, vI ch2, vI ch3, vI ch4, vI ch5, vR b145, .unset] [])) rfl (hb hby at_40) (by decide) (by decide)
   obtain ⟨b157, g157⟩ : ∃ z, z = T145.heap.size := ⟨_, rfl⟩
   rw [← g157] at A157 D157 st157
   have lt157 : @LT.lt Nat _ b157 h157.size := A157.lt
   have K157 : Keep T145.heap h157 [] := (Keep.refl _ _).ext E157
   have sz2_K157 := K157.1
   have F157_value : Fld Z h157 b157 "java/lang/String" "value" "[B" .null := D157 (Or.inr (tw hw 21 rfl)) (ty := (.array .byte)) (by decide)
   have F157_coder : Fld Z h157 b157 "java/lang/String" "coder" "B" (.int 0) := D157 (Or.inr (tw hw 22 rfl)) (ty := .byte) (by decide)
   have C159 := V145.keep K157 nin0
   have O160 : Old Z n0 T145.heap := O0.keep K145 all0
   have O161 : Old Z n0 h157 := O160.keep K157 all0
   obtain ⟨_, _, ⟨T158, L158, k158, n158⟩, -, X158, ⟨Lc158, hQ158, l158, y158, z158⟩, st158⟩ := X157.specialBack hx (y := mN9) rfl hown (mvT hZ (tw hw 9 rfl)) (mvT hZ (tw hw 10 rfl)) (mvT hZ (tw hw 11 rfl)) (by decide) (backOf (W := 1) (rmInit1U l Z a0 hw [] b157 b145 ([ch2, ch3] : List Int32) kb145 (.int 0) m1 cs0 h157 n0 O161 S_CS c_CS S_AD S_HI S_LO C159 (by simp) hcs hj hpre hend (by omega : @LE.le Nat _ n0 b157) A157 F157_value F157_coder (by omega)) hZ (tw hw 11 rfl) (tw hw 8 rfl) (by decide) (by decide)) (g := (mkF m 46 #[vI p1, vI p2, vI p3, vI p4, vI p5, vI 2, vI ch2, vI ch3, vI ch4, vI ch5, vR b145, .unset] [(.ref b145), (.ref b157), (.ref b157)])) rfl (by rw [hml]; rfl) (Steps.refl _) (a := b157) (argsL := [(.ref b145)]) (rest := [(.ref b157)]) (lenOf pd_1 rfl) rfl (wL _) (hb hby at_46) (fun _ _ => ⟨rfl, e157, (by decide : 2 + 2 ≤ _), (by decide : 6 + 44 ≤ _)⟩)
   dsimp only [Pt.U, Pt.locs, Pt.cells, Pt.slots] at X158 l158 y158 z158 st158 hQ158
   subst l158 y158 z158
   obtain ⟨t158, kb158, rfl, N158q, K158, E158, Fv158, Fc158, gt158, tx158, V158⟩ := hQ158
   have lt158 : @LT.lt Nat _ t158 T158.heap.size := V158.lt
   have sz3_K158 := K158.1
   have N158 := Fr.app N145 N158q
   have O163 : Old Z n0 T158.heap := O161.keep K158 (allS (by omega) (all0))
   obtain ⟨_, _, ⟨T162, L162, k162, n162⟩, -, X162, ⟨Lc162, hQ162, l162, y162, z162⟩, st162⟩ := Jvm.LawKit.callS X158 hx (y := mN50) hown (mvT hZ (tw hw 27 rfl)) (mvT hZ (tw hw 28 rfl)) (mvT hZ (tw hw 29 rfl)) (mvT hZ (tw hw 30 rfl)) (by decide) (backOf (W := 0) (rmPrU l Z a0 hw [] b157 ([ch2, ch3] : List Int32) cs0 t158 kb158 fm m1 T158.heap n0 O163 S_CS c_CS E158 Fv158 Fc158 V158 (by simp) S_FM r_FM hcs S_AD S_HI S_LO hj hpre hend) hZ (tw hw 30 rfl) (tw hw 29 rfl) (by decide) (by decide)) (g := (mkF m 49 #[vI p1, vI p2, vI p3, vI p4, vI p5, vI 2, vI ch2, vI ch3, vI ch4, vI ch5, vR b145, .unset] [(.ref b157)])) rfl (by rw [hml]; rfl) (argsL := [(.ref b157)]) (rest := []) (lenOf pd_4 rfl) rfl (wL _) (hb hby at_49) (fun _ _ => ⟨rfl, rfl, (by decide : 4 + 5 ≤ _), (by decide : 50 + 92 ≤ _)⟩)
   dsimp only [Pt.U, Pt.locs, Pt.cells, Pt.slots] at X162 l162 y162 z162 st162 hQ162
   subst l162 y162 z162
   obtain ⟨x162, t162, kb162, rfl, N162q, K162, gx162, E162, Fv162, Fc162, gt162, tx162, V162⟩ := hQ162
   have ltx162 : @LT.lt Nat _ x162 T162.heap.size := E162.lt
   have ltt162 : @LT.lt Nat _ t162 T162.heap.size := V162.lt
   have sz4_K162 := K162.1
   have N162 := Fr.app N158 N162q
   have pre164 : ∀ t, SS p e below T162 m 52 #[vI p1, vI p2, vI p3, vI p4, vI p5, vI 2, vI ch2, vI ch3, vI ch4, vI ch5, vR b145, .unset] [(.ref x162)] t → SE p e below s₁ m #[(.int p1), (.int p2), (.int p3), (.int p4), (.int p5)] maxLocals t := by
    intro t kt
    refine pre146 _ ?_
    show SS p e below T145 m 40 #[vI p1, vI p2, vI p3, vI p4, vI p5, vI 2, vI ch2, vI ch3, vI ch4, vI ch5, vR b145, .unset] [] _
    refine st157 _ ?_
    refine XS.dup X157.here hx rfl (hb hby at_43) rfl rfl ?_
    refine XS.aload X157.here hx rfl (hb hby at_44) rfl rfl ?_
    show SS p e below T157 m 46 #[vI p1, vI p2, vI p3, vI p4, vI p5, vI 2, vI ch2, vI ch3, vI ch4, vI ch5, vR b145, .unset] [(.ref b145), (.ref b157), (.ref b157)] _
    refine st158.trans ?_
    show SS p e below T158 m 49 #[vI p1, vI p2, vI p3, vI p4, vI p5, vI 2, vI ch2, vI ch3, vI ch4, vI ch5, vR b145, .unset] [(.ref b157)] _
    refine st162 _ ?_
    exact kt
   have O166 : Old Z n0 T162.heap := O163.keep K162 all0
   obtain ⟨T165, h165, L165, X165, e165, N165, H165, st165⟩ := tnTailU p1 p2 p3 p4 p5 ch2 ch3 ch4 ch5 b145 x162 (([ch2, ch3] : List Int32).map expC) cs0 t162 kb162 fm 2 (X162.more (by decide) (by decide)) hx hZ hw hby hml hown rfl O166 N162 S_CS c_CS E162 Fv162 Fc162 V162 (by simp) S_FM r_FM (own_mapU hcs) S_AD S_HI S_LO rfl rh2 rh3 rh4 rh5 (fun _ => rfl) (fun _ => rfl) (fun q => absurd q (by decide)) (fun q => absurd q (by decide))
   subst H165
   obtain ⟨fs, hr, hrun, hended, eR, eW, eI, eS⟩ := Stand.leaveW (s := s) (vm₁ := s.vm) X165 hS0 (by rw [e165]; omega) (v := some (.int 1)) (nvr Bd.returns)
   refine ⟨_, _, pre164 _ ?_, hrun, hended, _, _, rfl, ?_, eR, eW, eI, eS.mono (by decide) (by decide)⟩
   ·skip
    refine st165 _ ?_
    show SS p e below T165 m 128 #[vI p1, vI p2, vI p3, vI p4, vI p5, vI 2, vI ch2, vI ch3, vI ch4, vI ch5, vR b145, vR x162] [(.int 1)] _
    exact retN X165 hx (t := .boolean) Bd.returns (by simp) (hb hby at_128) hr
   ·show Q_rm0 Z p1 p2 p3 p4 p5 cs0 fm h0 n0 _ T165.heap _
    rw [e165]
    exact ⟨rfl, N165⟩
 ·skip
  have hr167 : ((p1 &&& (2147483647 : Int32)) % (5 : Int32)) = (3 : Int32) := hm
  have hcs : ∀ c ∈ ([ch2, ch3, ch4] : List Int32), ¬ c < 0 ∧ ¬ (65535 : Int32) < c := (by intro c hc; simp only [List.mem_cons, List.not_mem_nil, or_false] at hc; rcases hc with rfl | rfl | rfl <;> assumption)
  obtain ⟨_, _, ⟨T168, L168, k168, n168⟩, -, X168, ⟨Lc168, hQ168, l168, y168, z168⟩, st168⟩ := Jvm.LawKit.callS X0 hx (y := mN56) hown (mvT hZ (tw hw 1 rfl)) (mvT hZ (tw hw 2 rfl)) (mvT hZ (tw hw 3 rfl)) (mvT hZ (tw hw 4 rfl)) (by decide) (backOf (W := 0) (rmMake3 l Z a0 hw [] (3 : Int32) ch2 ch3 ch4 ch5  h0 n0 O0 rfl rh2 rh3 rh4) hZ (tw hw 4 rfl) (tw hw 3 rfl) (by decide) (by decide)) (g := (mkF m 35 #[vI p1, vI p2, vI p3, vI p4, vI p5, vI 3, vI ch2, vI ch3, vI ch4, vI ch5, .unset, .unset] [(.int ch5), (.int ch4), (.int ch3), (.int ch2), (.int 3)])) rfl (by rw [hml]; rfl) (argsL := [(.int 3), (.int ch2), (.int ch3), (.int ch4), (.int ch5)]) (rest := []) (lenOf pd_0 rfl) rfl (wL _) (hb hby at_35) (fun _ _ => ⟨rfl, e0, (by decide : 0 + 1 ≤ _), (by decide : 0 + 3 ≤ _)⟩)
  dsimp only [Pt.U, Pt.locs, Pt.cells, Pt.slots] at X168 l168 y168 z168 st168 hQ168
  subst l168 y168 z168
  obtain ⟨b168, kb168, rfl, N168q, K168, gb168, V168⟩ := hQ168
  have lt168 : @LT.lt Nat _ b168 T168.heap.size := V168.lt
  have sz1_K168 := K168.1
  have N168 := Fr.app N0 N168q
  have pre169 : ∀ t, SS p e below T168 m 40 #[vI p1, vI p2, vI p3, vI p4, vI p5, vI 3, vI ch2, vI ch3, vI ch4, vI ch5, vR b168, .unset] [] t → SE p e below s₁ m #[(.int p1), (.int p2), (.int p3), (.int p4), (.int p5)] maxLocals t := by
   intro t kt
   refine pre106 _ ?_
   show SS p e below s₁ m 25 #[vI p1, vI p2, vI p3, vI p4, vI p5, vI ((p1 &&& (2147483647 : Int32)) % (5 : Int32)), vI ch2, vI ch3, vI ch4, vI ch5, .unset, .unset] [] _
   rw [hr167]
   refine XS.iload X0.here hx rfl (hb hby at_25) rfl ?_
   refine XS.iload X0.here hx rfl (hb hby at_27) rfl ?_
   refine XS.iload X0.here hx rfl (hb hby at_29) rfl ?_
   refine XS.iload X0.here hx rfl (hb hby at_31) rfl ?_
   refine XS.iload X0.here hx rfl (hb hby at_33) rfl ?_
   show SS p e below s₁ m 35 #[vI p1, vI p2, vI p3, vI p4, vI p5, vI 3, vI ch2, vI ch3, vI ch4, vI ch5, .unset, .unset] [(.int ch5), (.int ch4), (.int ch3), (.int ch2), (.int 3)] _
   refine st168 _ ?_
   refine XS.astore X168.here hx rfl (hb hby at_38) rfl rfl (l' := #[vI p1, vI p2, vI p3, vI p4, vI p5, vI 3, vI ch2, vI ch3, vI ch4, vI ch5, vR b168, .unset]) rfl ?_
   exact kt
  rcases own_big ([ch2, ch3, ch4] : List Int32) with hL | ⟨m1, hj, hpre, hend⟩
  ·skip
   have hL := own_rngL hcs hL
   obtain ⟨T170, h170, X170, e170, E170, A170, D170, -, st170⟩ := newO X168 hx hZ hown (tw hw 6 rfl) (tw hw 7 rfl) (tw hw 8 rfl) rfl (g := (mkF m 40 #[vI p1, vI p2, vI p3, vI p4, vI p5, vI 3, vI ch2, vI ch3, vI ch4, vI ch5, vR b168, .unset] [])) rfl (hb hby at_40) (by decide) (by decide)
   obtain ⟨b170, g170⟩ : ∃ z, z = T168.heap.size := ⟨_, rfl⟩
   rw [← g170] at A170 D170 st170
   have lt170 : @LT.lt Nat _ b170 h170.size := A170.lt
   have K170 : Keep T168.heap h170 [] := (Keep.refl _ _).ext E170
   have sz2_K170 := K170.1
   have F170_value : Fld Z h170 b170 "java/lang/String" "value" "[B" .null := D170 (Or.inr (tw hw 21 rfl)) (ty := (.array .byte)) (by decide)
   have F170_coder : Fld Z h170 b170 "java/lang/String" "coder" "B" (.int 0) := D170 (Or.inr (tw hw 22 rfl)) (ty := .byte) (by decide)
   have C172 := V168.keep K170 nin0
   have O173 : Old Z n0 T168.heap := O0.keep K168 all0
   have O174 : Old Z n0 h170 := O173.keep K170 all0
   obtain ⟨_, _, ⟨T171, L171, k171, n171⟩, -, X171, ⟨Lc171, hQ171, l171, y171, z171⟩, st171⟩ := X170.specialBack hx (y := mN9) rfl hown (mvT hZ (tw hw 9 rfl)) (mvT hZ (tw hw 10 rfl)) (mvT hZ (tw hw 11 rfl)) (by decide) (StrChars.Road.backV (W := 1) hZ hws (kI := 4) (tw hw 7 rfl) (cs := ([ch2, ch3, ch4] : List Int32)) (bs := ([ch2, ch3, ch4] : List Int32).map (fun c => c.toInt8.toInt32)) (n := 3) (by omega : @LE.le Nat _ n0 b170) (by omega) A170 F170_value F170_coder C172 (Sta.ext O174.2 S_CS) c_CS rfl rfl (by decide) (by decide) hL rfl (by decide) (by decide)) (g := (mkF m 46 #[vI p1, vI p2, vI p3, vI p4, vI p5, vI 3, vI ch2, vI ch3, vI ch4, vI ch5, vR b168, .unset] [(.ref b168), (.ref b170), (.ref b170)])) rfl (by rw [hml]; rfl) (Steps.refl _) (a := b170) (argsL := [(.ref b168)]) (rest := [(.ref b170)]) (lenOf pd_1 rfl) rfl (wL _) (hb hby at_46) (fun _ _ => ⟨rfl, e170, (by decide : 2 + 1 ≤ _), (by decide : 7 + 3 ≤ _)⟩)
   dsimp only [Pt.U, Pt.locs, Pt.cells, Pt.slots] at X171 l171 y171 z171 st171 hQ171
   subst l171 y171 z171
   obtain ⟨rfl, N171q, K171, E171, C171, t171, kb171, ge171, gh171, tx171, Vf171, Av171⟩ := hQ171
   have lt171 : @LT.lt Nat _ t171 T171.heap.size := Av171.lt
   have sz3_K171 := K171.1
   have N171 := Fr.app N168 N171q
   have O176 : Old Z n0 T171.heap := O174.keep K171 (allS (by omega) (all0))
   obtain ⟨_, _, ⟨T175, L175, k175, n175⟩, -, X175, ⟨Lc175, hQ175, l175, y175, z175⟩, st175⟩ := Jvm.LawKit.callS X171 hx (y := mN50) hown (mvT hZ (tw hw 27 rfl)) (mvT hZ (tw hw 28 rfl)) (mvT hZ (tw hw 29 rfl)) (mvT hZ (tw hw 30 rfl)) (by decide) (backOf (W := 0) (rmPrL l Z a0 hw [] b170 ([ch2, ch3, ch4] : List Int32) cs0 t171 kb171 fm T171.heap n0 O176 S_CS c_CS E171 Vf171 C171 Av171 (by simp) S_FM r_FM hL) hZ (tw hw 30 rfl) (tw hw 29 rfl) (by decide) (by decide)) (g := (mkF m 49 #[vI p1, vI p2, vI p3, vI p4, vI p5, vI 3, vI ch2, vI ch3, vI ch4, vI ch5, vR b168, .unset] [(.ref b170)])) rfl (by rw [hml]; rfl) (argsL := [(.ref b170)]) (rest := []) (lenOf pd_4 rfl) rfl (wL _) (hb hby at_49) (fun _ _ => ⟨rfl, rfl, (by decide : 3 + 5 ≤ _), (by decide : 10 + 92 ≤ _)⟩)
   dsimp only [Pt.U, Pt.locs, Pt.cells, Pt.slots] at X175 l175 y175 z175 st175 hQ175
   subst l175 y175 z175
   obtain ⟨x175, t175, kb175, rfl, N175q, K175, gx175, E175, Fv175, Fc175, gt175, tx175, V175⟩ := hQ175
   have ltx175 : @LT.lt Nat _ x175 T175.heap.size := E175.lt
   have ltt175 : @LT.lt Nat _ t175 T175.heap.size := V175.lt
   have sz4_K175 := K175.1
   have N175 := Fr.app N171 N175q
   have pre177 : ∀ t, SS p e below T175 m 52 #[vI p1, vI p2, vI p3, vI p4, vI p5, vI 3, vI ch2, vI ch3, vI ch4, vI ch5, vR b168, .unset] [(.ref x175)] t → SE p e below s₁ m #[(.int p1), (.int p2), (.int p3), (.int p4), (.int p5)] maxLocals t := by
    intro t kt
    refine pre169 _ ?_
    show SS p e below T168 m 40 #[vI p1, vI p2, vI p3, vI p4, vI p5, vI 3, vI ch2, vI ch3, vI ch4, vI ch5, vR b168, .unset] [] _
    refine st170 _ ?_
    refine XS.dup X170.here hx rfl (hb hby at_43) rfl rfl ?_
    refine XS.aload X170.here hx rfl (hb hby at_44) rfl rfl ?_
    show SS p e below T170 m 46 #[vI p1, vI p2, vI p3, vI p4, vI p5, vI 3, vI ch2, vI ch3, vI ch4, vI ch5, vR b168, .unset] [(.ref b168), (.ref b170), (.ref b170)] _
    refine st171.trans ?_
    show SS p e below T171 m 49 #[vI p1, vI p2, vI p3, vI p4, vI p5, vI 3, vI ch2, vI ch3, vI ch4, vI ch5, vR b168, .unset] [(.ref b170)] _
    refine st175 _ ?_
    exact kt
   have O179 : Old Z n0 T175.heap := O176.keep K175 all0
   obtain ⟨T178, h178, L178, X178, e178, N178, H178, st178⟩ := tnTailL p1 p2 p3 p4 p5 ch2 ch3 ch4 ch5 b168 x175 (([ch2, ch3, ch4] : List Int32).map expC) cs0 t175 kb175 fm 3 (X175.more (by decide) (by decide)) hx hZ hw hby hml hown rfl O179 N175 S_CS c_CS E175 Fv175 Fc175 V175 (by simp) S_FM r_FM (own_mapL hL) rfl rh2 rh3 rh4 rh5 (fun _ => rfl) (fun _ => rfl) (fun _ => rfl) (fun q => absurd q (by decide))
   subst H178
   obtain ⟨fs, hr, hrun, hended, eR, eW, eI, eS⟩ := Stand.leaveW (s := s) (vm₁ := s.vm) X178 hS0 (by rw [e178]; omega) (v := some (.int 1)) (nvr Bd.returns)
   refine ⟨_, _, pre177 _ ?_, hrun, hended, _, _, rfl, ?_, eR, eW, eI, eS.mono (by decide) (by decide)⟩
   ·skip
    refine st178 _ ?_
    show SS p e below T178 m 128 #[vI p1, vI p2, vI p3, vI p4, vI p5, vI 3, vI ch2, vI ch3, vI ch4, vI ch5, vR b168, vR x175] [(.int 1)] _
    exact retN X178 hx (t := .boolean) Bd.returns (by simp) (hb hby at_128) hr
   ·show Q_rm0 Z p1 p2 p3 p4 p5 cs0 fm h0 n0 _ T178.heap _
    rw [e178]
    exact ⟨rfl, N178⟩
  ·skip
   obtain ⟨T180, h180, X180, e180, E180, A180, D180, -, st180⟩ := newO X168 hx hZ hown (tw hw 6 rfl) (tw hw 7 rfl) (tw hw 8 rfl) rfl (g := (mkF m 40 #[vI p1, vI p2, vI p3, vI p4, vI p5, vI 3, vI ch2, vI ch3, vI ch4, vI ch5, vR b168, .unset] [])) rfl (hb hby at_40) (by decide) (by decide)
   obtain ⟨b180, g180⟩ : ∃ z, z = T168.heap.size := ⟨_, rfl⟩
   rw [← g180] at A180 D180 st180
   have lt180 : @LT.lt Nat _ b180 h180.size := A180.lt
   have K180 : Keep T168.heap h180 [] := (Keep.refl _ _).ext E180
   have sz2_K180 := K180.1
   have F180_value : Fld Z h180 b180 "java/lang/String" "value" "[B" .null := D180 (Or.inr (tw hw 21 rfl)) (ty := (.array .byte)) (by decide)
   have F180_coder : Fld Z h180 b180 "java/lang/String" "coder" "B" (.int 0) := D180 (Or.inr (tw hw 22 rfl)) (ty := .byte) (by decide)
   have C182 := V168.keep K180 nin0
   have O183 : Old Z n0 T168.heap := O0.keep K168 all0
   have O184 : Old Z n0 h180 := O183.keep K180 all0
   obtain ⟨_, _, ⟨T181, L181, k181, n181⟩, -, X181, ⟨Lc181, hQ181, l181, y181, z181⟩, st181⟩ := X180.specialBack hx (y := mN9) rfl hown (mvT hZ (tw hw 9 rfl)) (mvT hZ (tw hw 10 rfl)) (mvT hZ (tw hw 11 rfl)) (by decide) (backOf (W := 1) (rmInit1U l Z a0 hw [] b180 b168 ([ch2, ch3, ch4] : List Int32) kb168 (.int 0) m1 cs0 h180 n0 O184 S_CS c_CS S_AD S_HI S_LO C182 (by simp) hcs hj hpre hend (by omega : @LE.le Nat _ n0 b180) A180 F180_value F180_coder (by omega)) hZ (tw hw 11 rfl) (tw hw 8 rfl) (by decide) (by decide)) (g := (mkF m 46 #[vI p1, vI p2, vI p3, vI p4, vI p5, vI 3, vI ch2, vI ch3, vI ch4, vI ch5, vR b168, .unset] [(.ref b168), (.ref b180), (.ref b180)])) rfl (by rw [hml]; rfl) (Steps.refl _) (a := b180) (argsL := [(.ref b168)]) (rest := [(.ref b180)]) (lenOf pd_1 rfl) rfl (wL _) (hb hby at_46) (fun _ _ => ⟨rfl, e180, (by decide : 2 + 2 ≤ _), (by decide : 7 + 44 ≤ _)⟩)
   dsimp only [Pt.U, Pt.locs, Pt.cells, Pt.slots] at X181 l181 y181 z181 st181 hQ181
   subst l181 y181 z181
   obtain ⟨t181, kb181, rfl, N181q, K181, E181, Fv181, Fc181, gt181, tx181, V181⟩ := hQ181
   have lt181 : @LT.lt Nat _ t181 T181.heap.size := V181.lt
   have sz3_K181 := K181.1
   have N181 := Fr.app N168 N181q
   have O186 : Old Z n0 T181.heap := O184.keep K181 (allS (by omega) (all0))
   obtain ⟨_, _, ⟨T185, L185, k185, n185⟩, -, X185, ⟨Lc185, hQ185, l185, y185, z185⟩, st185⟩ := Jvm.LawKit.callS X181 hx (y := mN50) hown (mvT hZ (tw hw 27 rfl)) (mvT hZ (tw hw 28 rfl)) (mvT hZ (tw hw 29 rfl)) (mvT hZ (tw hw 30 rfl)) (by decide) (backOf (W := 0) (rmPrU l Z a0 hw [] b180 ([ch2, ch3, ch4] : List Int32) cs0 t181 kb181 fm m1 T181.heap n0 O186 S_CS c_CS E181 Fv181 Fc181 V181 (by simp) S_FM r_FM hcs S_AD S_HI S_LO hj hpre hend) hZ (tw hw 30 rfl) (tw hw 29 rfl) (by decide) (by decide)) (g := (mkF m 49 #[vI p1, vI p2, vI p3, vI p4, vI p5, vI 3, vI ch2, vI ch3, vI ch4, vI ch5, vR b168, .unset] [(.ref b180)])) rfl (by rw [hml]; rfl) (argsL := [(.ref b180)]) (rest := []) (lenOf pd_4 rfl) rfl (wL _) (hb hby at_49) (fun _ _ => ⟨rfl, rfl, (by decide : 4 + 5 ≤ _), (by decide : 51 + 92 ≤ _)⟩)
   dsimp only [Pt.U, Pt.locs, Pt.cells, Pt.slots] at X185 l185 y185 z185 st185 hQ185
   subst l185 y185 z185
   obtain ⟨x185, t185, kb185, rfl, N185q, K185, gx185, E185, Fv185, Fc185, gt185, tx185, V185⟩ := hQ185
   have ltx185 : @LT.lt Nat _ x185 T185.heap.size := E185.lt
   have ltt185 : @LT.lt Nat _ t185 T185.heap.size := V185.lt
   have sz4_K185 := K185.1
   have N185 := Fr.app N181 N185q
   have pre187 : ∀ t, SS p e below T185 m 52 #[vI p1, vI p2, vI p3, vI p4, vI p5, vI 3, vI ch2, vI ch3, vI ch4, vI ch5, vR b168, .unset] [(.ref x185)] t → SE p e below s₁ m #[(.int p1), (.int p2), (.int p3), (.int p4), (.int p5)] maxLocals t := by
    intro t kt
    refine pre169 _ ?_
    show SS p e below T168 m 40 #[vI p1, vI p2, vI p3, vI p4, vI p5, vI 3, vI ch2, vI ch3, vI ch4, vI ch5, vR b168, .unset] [] _
    refine st180 _ ?_
    refine XS.dup X180.here hx rfl (hb hby at_43) rfl rfl ?_
    refine XS.aload X180.here hx rfl (hb hby at_44) rfl rfl ?_
    show SS p e below T180 m 46 #[vI p1, vI p2, vI p3, vI p4, vI p5, vI 3, vI ch2, vI ch3, vI ch4, vI ch5, vR b168, .unset] [(.ref b168), (.ref b180), (.ref b180)] _
    refine st181.trans ?_
    show SS p e below T181 m 49 #[vI p1, vI p2, vI p3, vI p4, vI p5, vI 3, vI ch2, vI ch3, vI ch4, vI ch5, vR b168, .unset] [(.ref b180)] _
    refine st185 _ ?_
    exact kt
   have O189 : Old Z n0 T185.heap := O186.keep K185 all0
   obtain ⟨T188, h188, L188, X188, e188, N188, H188, st188⟩ := tnTailU p1 p2 p3 p4 p5 ch2 ch3 ch4 ch5 b168 x185 (([ch2, ch3, ch4] : List Int32).map expC) cs0 t185 kb185 fm 3 (X185.more (by decide) (by decide)) hx hZ hw hby hml hown rfl O189 N185 S_CS c_CS E185 Fv185 Fc185 V185 (by simp) S_FM r_FM (own_mapU hcs) S_AD S_HI S_LO rfl rh2 rh3 rh4 rh5 (fun _ => rfl) (fun _ => rfl) (fun _ => rfl) (fun q => absurd q (by decide))
   subst H188
   obtain ⟨fs, hr, hrun, hended, eR, eW, eI, eS⟩ := Stand.leaveW (s := s) (vm₁ := s.vm) X188 hS0 (by rw [e188]; omega) (v := some (.int 1)) (nvr Bd.returns)
   refine ⟨_, _, pre187 _ ?_, hrun, hended, _, _, rfl, ?_, eR, eW, eI, eS.mono (by decide) (by decide)⟩
   ·skip
    refine st188 _ ?_
    show SS p e below T188 m 128 #[vI p1, vI p2, vI p3, vI p4, vI p5, vI 3, vI ch2, vI ch3, vI ch4, vI ch5, vR b168, vR x185] [(.int 1)] _
    exact retN X188 hx (t := .boolean) Bd.returns (by simp) (hb hby at_128) hr
   ·show Q_rm0 Z p1 p2 p3 p4 p5 cs0 fm h0 n0 _ T188.heap _
    rw [e188]
    exact ⟨rfl, N188⟩
 ·skip
  have hr190 : ((p1 &&& (2147483647 : Int32)) % (5 : Int32)) = (4 : Int32) := hm
  have hcs : ∀ c ∈ ([ch2, ch3, ch4, ch5] : List Int32), ¬ c < 0 ∧ ¬ (65535 : Int32) < c := (by intro c hc; simp only [List.mem_cons, List.not_mem_nil, or_false] at hc; rcases hc with rfl | rfl | rfl | rfl <;> assumption)
  obtain ⟨_, _, ⟨T191, L191, k191, n191⟩, -, X191, ⟨Lc191, hQ191, l191, y191, z191⟩, st191⟩ := Jvm.LawKit.callS X0 hx (y := mN56) hown (mvT hZ (tw hw 1 rfl)) (mvT hZ (tw hw 2 rfl)) (mvT hZ (tw hw 3 rfl)) (mvT hZ (tw hw 4 rfl)) (by decide) (backOf (W := 0) (rmMake4 l Z a0 hw [] (4 : Int32) ch2 ch3 ch4 ch5  h0 n0 O0 rfl rh2 rh3 rh4 rh5) hZ (tw hw 4 rfl) (tw hw 3 rfl) (by decide) (by decide)) (g := (mkF m 35 #[vI p1, vI p2, vI p3, vI p4, vI p5, vI 4, vI ch2, vI ch3, vI ch4, vI ch5, .unset, .unset] [(.int ch5), (.int ch4), (.int ch3), (.int ch2), (.int 4)])) rfl (by rw [hml]; rfl) (argsL := [(.int 4), (.int ch2), (.int ch3), (.int ch4), (.int ch5)]) (rest := []) (lenOf pd_0 rfl) rfl (wL _) (hb hby at_35) (fun _ _ => ⟨rfl, e0, (by decide : 0 + 1 ≤ _), (by decide : 0 + 4 ≤ _)⟩)
  dsimp only [Pt.U, Pt.locs, Pt.cells, Pt.slots] at X191 l191 y191 z191 st191 hQ191
  subst l191 y191 z191
  obtain ⟨b191, kb191, rfl, N191q, K191, gb191, V191⟩ := hQ191
  have lt191 : @LT.lt Nat _ b191 T191.heap.size := V191.lt
  have sz1_K191 := K191.1
  have N191 := Fr.app N0 N191q
  have pre192 : ∀ t, SS p e below T191 m 40 #[vI p1, vI p2, vI p3, vI p4, vI p5, vI 4, vI ch2, vI ch3, vI ch4, vI ch5, vR b191, .unset] [] t → SE p e below s₁ m #[(.int p1), (.int p2), (.int p3), (.int p4), (.int p5)] maxLocals t := by
   intro t kt
   refine pre106 _ ?_
   show SS p e below s₁ m 25 #[vI p1, vI p2, vI p3, vI p4, vI p5, vI ((p1 &&& (2147483647 : Int32)) % (5 : Int32)), vI ch2, vI ch3, vI ch4, vI ch5, .unset, .unset] [] _
   rw [hr190]
   refine XS.iload X0.here hx rfl (hb hby at_25) rfl ?_
   refine XS.iload X0.here hx rfl (hb hby at_27) rfl ?_
   refine XS.iload X0.here hx rfl (hb hby at_29) rfl ?_
   refine XS.iload X0.here hx rfl (hb hby at_31) rfl ?_
   refine XS.iload X0.here hx rfl (hb hby at_33) rfl ?_
   show SS p e below s₁ m 35 #[vI p1, vI p2, vI p3, vI p4, vI p5, vI 4, vI ch2, vI ch3, vI ch4, vI ch5, .unset, .unset] [(.int ch5), (.int ch4), (.int ch3), (.int ch2), (.int 4)] _
   refine st191 _ ?_
   refine XS.astore X191.here hx rfl (hb hby at_38) rfl rfl (l' := #[vI p1, vI p2, vI p3, vI p4, vI p5, vI 4, vI ch2, vI ch3, vI ch4, vI ch5, vR b191, .unset]) rfl ?_
   exact kt
  rcases own_big ([ch2, ch3, ch4, ch5] : List Int32) with hL | ⟨m1, hj, hpre, hend⟩
  ·skip
   have hL := own_rngL hcs hL
   obtain ⟨T193, h193, X193, e193, E193, A193, D193, -, st193⟩ := newO X191 hx hZ hown (tw hw 6 rfl) (tw hw 7 rfl) (tw hw 8 rfl) rfl (g := (mkF m 40 #[vI p1, vI p2, vI p3, vI p4, vI p5, vI 4, vI ch2, vI ch3, vI ch4, vI ch5, vR b191, .unset] [])) rfl (hb hby at_40) (by decide) (by decide)
   obtain ⟨b193, g193⟩ : ∃ z, z = T191.heap.size := ⟨_, rfl⟩
   rw [← g193] at A193 D193 st193
   have lt193 : @LT.lt Nat _ b193 h193.size := A193.lt
   have K193 : Keep T191.heap h193 [] := (Keep.refl _ _).ext E193
   have sz2_K193 := K193.1
   have F193_value : Fld Z h193 b193 "java/lang/String" "value" "[B" .null := D193 (Or.inr (tw hw 21 rfl)) (ty := (.array .byte)) (by decide)
   have F193_coder : Fld Z h193 b193 "java/lang/String" "coder" "B" (.int 0) := D193 (Or.inr (tw hw 22 rfl)) (ty := .byte) (by decide)
   have C195 := V191.keep K193 nin0
   have O196 : Old Z n0 T191.heap := O0.keep K191 all0
   have O197 : Old Z n0 h193 := O196.keep K193 all0
   obtain ⟨_, _, ⟨T194, L194, k194, n194⟩, -, X194, ⟨Lc194, hQ194, l194, y194, z194⟩, st194⟩ := X193.specialBack hx (y := mN9) rfl hown (mvT hZ (tw hw 9 rfl)) (mvT hZ (tw hw 10 rfl)) (mvT hZ (tw hw 11 rfl)) (by decide) (StrChars.Road.backV (W := 1) hZ hws (kI := 4) (tw hw 7 rfl) (cs := ([ch2, ch3, ch4, ch5] : List Int32)) (bs := ([ch2, ch3, ch4, ch5] : List Int32).map (fun c => c.toInt8.toInt32)) (n := 4) (by omega : @LE.le Nat _ n0 b193) (by omega) A193 F193_value F193_coder C195 (Sta.ext O197.2 S_CS) c_CS rfl rfl (by decide) (by decide) hL rfl (by decide) (by decide)) (g := (mkF m 46 #[vI p1, vI p2, vI p3, vI p4, vI p5, vI 4, vI ch2, vI ch3, vI ch4, vI ch5, vR b191, .unset] [(.ref b191), (.ref b193), (.ref b193)])) rfl (by rw [hml]; rfl) (Steps.refl _) (a := b193) (argsL := [(.ref b191)]) (rest := [(.ref b193)]) (lenOf pd_1 rfl) rfl (wL _) (hb hby at_46) (fun _ _ => ⟨rfl, e193, (by decide : 2 + 1 ≤ _), (by decide : 8 + 4 ≤ _)⟩)
   dsimp only [Pt.U, Pt.locs, Pt.cells, Pt.slots] at X194 l194 y194 z194 st194 hQ194
   subst l194 y194 z194
   obtain ⟨rfl, N194q, K194, E194, C194, t194, kb194, ge194, gh194, tx194, Vf194, Av194⟩ := hQ194
   have lt194 : @LT.lt Nat _ t194 T194.heap.size := Av194.lt
   have sz3_K194 := K194.1
   have N194 := Fr.app N191 N194q
   have O199 : Old Z n0 T194.heap := O197.keep K194 (allS (by omega) (all0))
   obtain ⟨_, _, ⟨T198, L198, k198, n198⟩, -, X198, ⟨Lc198, hQ198, l198, y198, z198⟩, st198⟩ := Jvm.LawKit.callS X194 hx (y := mN50) hown (mvT hZ (tw hw 27 rfl)) (mvT hZ (tw hw 28 rfl)) (mvT hZ (tw hw 29 rfl)) (mvT hZ (tw hw 30 rfl)) (by decide) (backOf (W := 0) (rmPrL l Z a0 hw [] b193 ([ch2, ch3, ch4, ch5] : List Int32) cs0 t194 kb194 fm T194.heap n0 O199 S_CS c_CS E194 Vf194 C194 Av194 (by simp) S_FM r_FM hL) hZ (tw hw 30 rfl) (tw hw 29 rfl) (by decide) (by decide)) (g := (mkF m 49 #[vI p1, vI p2, vI p3, vI p4, vI p5, vI 4, vI ch2, vI ch3, vI ch4, vI ch5, vR b191, .unset] [(.ref b193)])) rfl (by rw [hml]; rfl) (argsL := [(.ref b193)]) (rest := []) (lenOf pd_4 rfl) rfl (wL _) (hb hby at_49) (fun _ _ => ⟨rfl, rfl, (by decide : 3 + 5 ≤ _), (by decide : 12 + 92 ≤ _)⟩)
   dsimp only [Pt.U, Pt.locs, Pt.cells, Pt.slots] at X198 l198 y198 z198 st198 hQ198
   subst l198 y198 z198
   obtain ⟨x198, t198, kb198, rfl, N198q, K198, gx198, E198, Fv198, Fc198, gt198, tx198, V198⟩ := hQ198
   have ltx198 : @LT.lt Nat _ x198 T198.heap.size := E198.lt
   have ltt198 : @LT.lt Nat _ t198 T198.heap.size := V198.lt
   have sz4_K198 := K198.1
   have N198 := Fr.app N194 N198q
   have pre200 : ∀ t, SS p e below T198 m 52 #[vI p1, vI p2, vI p3, vI p4, vI p5, vI 4, vI ch2, vI ch3, vI ch4, vI ch5, vR b191, .unset] [(.ref x198)] t → SE p e below s₁ m #[(.int p1), (.int p2), (.int p3), (.int p4), (.int p5)] maxLocals t := by
    intro t kt
    refine pre192 _ ?_
    show SS p e below T191 m 40 #[vI p1, vI p2, vI p3, vI p4, vI p5, vI 4, vI ch2, vI ch3, vI ch4, vI ch5, vR b191, .unset] [] _
    refine st193 _ ?_
    refine XS.dup X193.here hx rfl (hb hby at_43) rfl rfl ?_
    refine XS.aload X193.here hx rfl (hb hby at_44) rfl rfl ?_
    show SS p e below T193 m 46 #[vI p1, vI p2, vI p3, vI p4, vI p5, vI 4, vI ch2, vI ch3, vI ch4, vI ch5, vR b191, .unset] [(.ref b191), (.ref b193), (.ref b193)] _
    refine st194.trans ?_
    show SS p e below T194 m 49 #[vI p1, vI p2, vI p3, vI p4, vI p5, vI 4, vI ch2, vI ch3, vI ch4, vI ch5, vR b191, .unset] [(.ref b193)] _
    refine st198 _ ?_
    exact kt
   have O202 : Old Z n0 T198.heap := O199.keep K198 all0
   obtain ⟨T201, h201, L201, X201, e201, N201, H201, st201⟩ := tnTailL p1 p2 p3 p4 p5 ch2 ch3 ch4 ch5 b191 x198 (([ch2, ch3, ch4, ch5] : List Int32).map expC) cs0 t198 kb198 fm 4 (X198.more (by decide) (by decide)) hx hZ hw hby hml hown rfl O202 N198 S_CS c_CS E198 Fv198 Fc198 V198 (by simp) S_FM r_FM (own_mapL hL) rfl rh2 rh3 rh4 rh5 (fun _ => rfl) (fun _ => rfl) (fun _ => rfl) (fun _ => rfl)
   subst H201
   obtain ⟨fs, hr, hrun, hended, eR, eW, eI, eS⟩ := Stand.leaveW (s := s) (vm₁ := s.vm) X201 hS0 (by rw [e201]; omega) (v := some (.int 1)) (nvr Bd.returns)
   refine ⟨_, _, pre200 _ ?_, hrun, hended, _, _, rfl, ?_, eR, eW, eI, eS.mono (by decide) (by decide)⟩
   ·skip
    refine st201 _ ?_
    show SS p e below T201 m 128 #[vI p1, vI p2, vI p3, vI p4, vI p5, vI 4, vI ch2, vI ch3, vI ch4, vI ch5, vR b191, vR x198] [(.int 1)] _
    exact retN X201 hx (t := .boolean) Bd.returns (by simp) (hb hby at_128) hr
   ·show Q_rm0 Z p1 p2 p3 p4 p5 cs0 fm h0 n0 _ T201.heap _
    rw [e201]
    exact ⟨rfl, N201⟩
  ·skip
   obtain ⟨T203, h203, X203, e203, E203, A203, D203, -, st203⟩ := newO X191 hx hZ hown (tw hw 6 rfl) (tw hw 7 rfl) (tw hw 8 rfl) rfl (g := (mkF m 40 #[vI p1, vI p2, vI p3, vI p4, vI p5, vI 4, vI ch2, vI ch3, vI ch4, vI ch5, vR b191, .unset] [])) rfl (hb hby at_40) (by decide) (by decide)
   obtain ⟨b203, g203⟩ : ∃ z, z = T191.heap.size := ⟨_, rfl⟩
   rw [← g203] at A203 D203 st203
   have lt203 : @LT.lt Nat _ b203 h203.size := A203.lt
   have K203 : Keep T191.heap h203 [] := (Keep.refl _ _).ext E203
   have sz2_K203 := K203.1
   have F203_value : Fld Z h203 b203 "java/lang/String" "value" "[B" .null := D203 (Or.inr (tw hw 21 rfl)) (ty := (.array .byte)) (by decide)
   have F203_coder : Fld Z h203 b203 "java/lang/String" "coder" "B" (.int 0) := D203 (Or.inr (tw hw 22 rfl)) (ty := .byte) (by decide)
   have C205 := V191.keep K203 nin0
   have O206 : Old Z n0 T191.heap := O0.keep K191 all0
   have O207 : Old Z n0 h203 := O206.keep K203 all0
   obtain ⟨_, _, ⟨T204, L204, k204, n204⟩, -, X204, ⟨Lc204, hQ204, l204, y204, z204⟩, st204⟩ := X203.specialBack hx (y := mN9) rfl hown (mvT hZ (tw hw 9 rfl)) (mvT hZ (tw hw 10 rfl)) (mvT hZ (tw hw 11 rfl)) (by decide) (backOf (W := 1) (rmInit1U l Z a0 hw [] b203 b191 ([ch2, ch3, ch4, ch5] : List Int32) kb191 (.int 0) m1 cs0 h203 n0 O207 S_CS c_CS S_AD S_HI S_LO C205 (by simp) hcs hj hpre hend (by omega : @LE.le Nat _ n0 b203) A203 F203_value F203_coder (by omega)) hZ (tw hw 11 rfl) (tw hw 8 rfl) (by decide) (by decide)) (g := (mkF m 46 #[vI p1, vI p2, vI p3, vI p4, vI p5, vI 4, vI ch2, vI ch3, vI ch4, vI ch5, vR b191, .unset] [(.ref b191), (.ref b203), (.ref b203)])) rfl (by rw [hml]; rfl) (Steps.refl _) (a := b203) (argsL := [(.ref b191)]) (rest := [(.ref b203)]) (lenOf pd_1 rfl) rfl (wL _) (hb hby at_46) (fun _ _ => ⟨rfl, e203, (by decide : 2 + 2 ≤ _), (by decide : 8 + 44 ≤ _)⟩)
   dsimp only [Pt.U, Pt.locs, Pt.cells, Pt.slots] at X204 l204 y204 z204 st204 hQ204
   subst l204 y204 z204
   obtain ⟨t204, kb204, rfl, N204q, K204, E204, Fv204, Fc204, gt204, tx204, V204⟩ := hQ204
   have lt204 : @LT.lt Nat _ t204 T204.heap.size := V204.lt
   have sz3_K204 := K204.1
   have N204 := Fr.app N191 N204q
   have O209 : Old Z n0 T204.heap := O207.keep K204 (allS (by omega) (all0))
   obtain ⟨_, _, ⟨T208, L208, k208, n208⟩, -, X208, ⟨Lc208, hQ208, l208, y208, z208⟩, st208⟩ := Jvm.LawKit.callS X204 hx (y := mN50) hown (mvT hZ (tw hw 27 rfl)) (mvT hZ (tw hw 28 rfl)) (mvT hZ (tw hw 29 rfl)) (mvT hZ (tw hw 30 rfl)) (by decide) (backOf (W := 0) (rmPrU l Z a0 hw [] b203 ([ch2, ch3, ch4, ch5] : List Int32) cs0 t204 kb204 fm m1 T204.heap n0 O209 S_CS c_CS E204 Fv204 Fc204 V204 (by simp) S_FM r_FM hcs S_AD S_HI S_LO hj hpre hend) hZ (tw hw 30 rfl) (tw hw 29 rfl) (by decide) (by decide)) (g := (mkF m 49 #[vI p1, vI p2, vI p3, vI p4, vI p5, vI 4, vI ch2, vI ch3, vI ch4, vI ch5, vR b191, .unset] [(.ref b203)])) rfl (by rw [hml]; rfl) (argsL := [(.ref b203)]) (rest := []) (lenOf pd_4 rfl) rfl (wL _) (hb hby at_49) (fun _ _ => ⟨rfl, rfl, (by decide : 4 + 5 ≤ _), (by decide : 52 + 92 ≤ _)⟩)
   dsimp only [Pt.U, Pt.locs, Pt.cells, Pt.slots] at X208 l208 y208 z208 st208 hQ208
   subst l208 y208 z208
   obtain ⟨x208, t208, kb208, rfl, N208q, K208, gx208, E208, Fv208, Fc208, gt208, tx208, V208⟩ := hQ208
   have ltx208 : @LT.lt Nat _ x208 T208.heap.size := E208.lt
   have ltt208 : @LT.lt Nat _ t208 T208.heap.size := V208.lt
   have sz4_K208 := K208.1
   have N208 := Fr.app N204 N208q
   have pre210 : ∀ t, SS p e below T208 m 52 #[vI p1, vI p2, vI p3, vI p4, vI p5, vI 4, vI ch2, vI ch3, vI ch4, vI ch5, vR b191, .unset] [(.ref x208)] t → SE p e below s₁ m #[(.int p1), (.int p2), (.int p3), (.int p4), (.int p5)] maxLocals t := by
    intro t kt
    refine pre192 _ ?_
    show SS p e below T191 m 40 #[vI p1, vI p2, vI p3, vI p4, vI p5, vI 4, vI ch2, vI ch3, vI ch4, vI ch5, vR b191, .unset] [] _
    refine st203 _ ?_
    refine XS.dup X203.here hx rfl (hb hby at_43) rfl rfl ?_
    refine XS.aload X203.here hx rfl (hb hby at_44) rfl rfl ?_
    show SS p e below T203 m 46 #[vI p1, vI p2, vI p3, vI p4, vI p5, vI 4, vI ch2, vI ch3, vI ch4, vI ch5, vR b191, .unset] [(.ref b191), (.ref b203), (.ref b203)] _
    refine st204.trans ?_
    show SS p e below T204 m 49 #[vI p1, vI p2, vI p3, vI p4, vI p5, vI 4, vI ch2, vI ch3, vI ch4, vI ch5, vR b191, .unset] [(.ref b203)] _
    refine st208 _ ?_
    exact kt
   have O212 : Old Z n0 T208.heap := O209.keep K208 all0
   obtain ⟨T211, h211, L211, X211, e211, N211, H211, st211⟩ := tnTailU p1 p2 p3 p4 p5 ch2 ch3 ch4 ch5 b191 x208 (([ch2, ch3, ch4, ch5] : List Int32).map expC) cs0 t208 kb208 fm 4 (X208.more (by decide) (by decide)) hx hZ hw hby hml hown rfl O212 N208 S_CS c_CS E208 Fv208 Fc208 V208 (by simp) S_FM r_FM (own_mapU hcs) S_AD S_HI S_LO rfl rh2 rh3 rh4 rh5 (fun _ => rfl) (fun _ => rfl) (fun _ => rfl) (fun _ => rfl)
   subst H211
   obtain ⟨fs, hr, hrun, hended, eR, eW, eI, eS⟩ := Stand.leaveW (s := s) (vm₁ := s.vm) X211 hS0 (by rw [e211]; omega) (v := some (.int 1)) (nvr Bd.returns)
   refine ⟨_, _, pre210 _ ?_, hrun, hended, _, _, rfl, ?_, eR, eW, eI, eS.mono (by decide) (by decide)⟩
   ·skip
    refine st211 _ ?_
    show SS p e below T211 m 128 #[vI p1, vI p2, vI p3, vI p4, vI p5, vI 4, vI ch2, vI ch3, vI ch4, vI ch5, vR b191, vR x208] [(.int 1)] _
    exact retN X211 hx (t := .boolean) Bd.returns (by simp) (hb hby at_128) hr
   ·show Q_rm0 Z p1 p2 p3 p4 p5 cs0 fm h0 n0 _ T211.heap _
    rw [e211]
    exact ⟨rfl, N211⟩
theorem own_sta {s : State} {args : Array Value} {C n d : String} {k : Int32} (h : (Jvm.Cond.eq (Jvm.Term.static C n d) (Jvm.Term.int k)).value args s none s [] = some true) (hi : (Jvm.Cond.initializedFor C n d).before args s = true) : Sta s s.heap C n d (.int k) := by
 obtain ⟨x, y, ex, ey, k1, k2⟩ := cmp_v (Or.inl h)
 have ey' : y = .int k := Option.some.inj (ey.symm.trans (Term.int_eval k))
 subst ey'
 obtain ⟨z, rfl⟩ := k2
 have hz : z = k := gotT (Cond.eq_ints ex ey) h
 subst hz
 exact Sta.start ex (Or.inl hi)
theorem comes_1 {Post : Tables → Env → Array Value → State → Outcome → State → Prop} (hpost : ∀ tb e args s v u, (limb_1_1.after args s (.returned v) u = true ∧ limb_1_2.after args s (.returned v) u = true ∧ True) → ReturnedEndW s (.returned v) u (Jvm.fieldLocs frame_1_writes args s ++ Jvm.arrayLocs frame_1_arrays args s ++ Jvm.staticLocs frame_1_statics s) 32 1280 → Post tb e args s (.returned v) u) :
  ArmFor flags0 classFile x code maxLocals ret World_1 tables_1 room_1 Calls_1 rest_1 Pre_1 Post := by
 intro l hfl _ _ p e ha hc hk s m args below hf hA hF happ hP
 obtain ⟨hcalls, hrest, hpre⟩ := hP
 obtain ⟨-, -, -, hnamed, -, -, -, hat⟩ := (Spec.applies_iff hf).mp happ
 obtain ⟨hg, hn⟩ := and_e (Cond.before_iff.mp (show (Jvm.Cond.and given_1 narrow_1).before args s = true from hpre))
 obtain ⟨gc, g0⟩ := and_e hg
 obtain ⟨ga0, g1⟩ := and_e g0
 obtain ⟨ga1, g2⟩ := and_e g1
 obtain ⟨ga2, g3⟩ := and_e g2
 obtain ⟨ga3, g4⟩ := and_e g3
 have ga4 := g4
 obtain ⟨w0, w1, w2, w3, w4, rfl⟩ : ∃ w0 w1 w2 w3 w4 : Value, args = #[w0, w1, w2, w3, w4] := by
  have hs : args.size = 5 := by simpa [Cond.value, given_1] using gc
  obtain ⟨L⟩ := args
  match L, hs with
  | [w0, w1, w2, w3, w4], _ => exact ⟨w0, w1, w2, w3, w4, rfl⟩
 obtain ⟨i0, ei0⟩ := is_v ga0
 obtain rfl : w0 = (.int i0) := Option.some.inj ei0
 obtain ⟨i1, ei1⟩ := is_v ga1
 obtain rfl : w1 = (.int i1) := Option.some.inj ei1
 obtain ⟨i2, ei2⟩ := is_v ga2
 obtain rfl : w2 = (.int i2) := Option.some.inj ei2
 obtain ⟨i3, ei3⟩ := is_v ga3
 obtain rfl : w3 = (.int i3) := Option.some.inj ei3
 obtain ⟨i4, ei4⟩ := is_v ga4
 obtain rfl : w4 = (.int i4) := Option.some.inj ei4
 have hw := fun d (hd : d ∈ tables_1) => atoms_spec (ws := Jvm.Cond.code x code maxLocals ret :: tables_1) hat d (List.mem_cons_of_mem _ hd)
 have hfit : Fit s := fun {y c} hc i hi => by
  obtain ⟨ha, rfl⟩ := Array.getElem?_eq_some_iff.mp hc
  have q := List.all_eq_true.mp ((Array.all_eq_true_iff_forall_mem.mp hF) _ (Array.getElem_mem ha)) i (List.mem_range.mpr hi)
  simpa [Array.getElem?_eq_getElem hi] using q
 obtain ⟨hsets, hown0⟩ := atoms_of _ (rest_1_c_eq ▸ (show rest_1_c.before _ s = true from hrest))
 have n5 := not_v (Cond.before_iff.mp (hsets _ (List.mem_of_getElem? (i := 2) rfl)))
 obtain ⟨cs0, eCS⟩ := is_v (Cond.before_iff.mp (hsets _ (List.mem_of_getElem? (i := 1) rfl)))
 have S_CS : Sta s s.heap "java/lang/String" "COMPACT_STRINGS" "Z" (.int cs0) := Sta.start eCS (Or.inl (hsets _ (List.mem_of_getElem? (i := 0) rfl)))
 have c_CS : ¬ (cs0 = (0 : Int32)) := gotF (Cond.eq_ints eCS (Term.int_eval (0))) n5
 obtain ⟨fm, eFM, rFM⟩ := isR_v (Cond.before_iff.mp (hsets _ (List.mem_of_getElem? (i := 8) rfl)))
 have S_FM : Sta s s.heap "jdk/internal/util/Preconditions" "SIOOBE_FORMATTER" "Ljava/util/function/BiFunction;" fm := Sta.start eFM (Or.inl (hsets _ (List.mem_of_getElem? (i := 7) rfl)))
 have S_AD : Sta s s.heap "java/lang/StringUTF16" "$assertionsDisabled" "Z" (.int 1) := own_sta (Cond.before_iff.mp (hsets _ (List.mem_of_getElem? (i := 12) rfl))) (hsets _ (List.mem_of_getElem? (i := 11) rfl))
 have S_HI : Sta s s.heap "java/lang/StringUTF16" "HI_BYTE_SHIFT" "I" (.int 0) := own_sta (Cond.before_iff.mp (hsets _ (List.mem_of_getElem? (i := 15) rfl))) (hsets _ (List.mem_of_getElem? (i := 14) rfl))
 have S_LO : Sta s s.heap "java/lang/StringUTF16" "LO_BYTE_SHIFT" "I" (.int 8) := own_sta (Cond.before_iff.mp (hsets _ (List.mem_of_getElem? (i := 18) rfl))) (hsets _ (List.mem_of_getElem? (i := 17) rfl))
 have wStr : ∀ d ∈ Bundle.stringAtoms, d.before _ s = true := fun d hd => hw d ((by decide +kernel : ∀ d ∈ Bundle.stringAtoms, d ∈ tables_1) d hd)
 have hEW : EW s _ EL1 := EW.cons (tw hw 19 rfl) (by decide) EW.nil
 have hCH : CHv s EL1 s.vm s.heap := CHv.start hEW (fun p hp => hcalls.1 p hp) (hsets _ (List.mem_of_getElem? (i := 2) rfl)) (wStr _ (by simp [Bundle.stringAtoms])) (wStr _ (by simp [Bundle.stringAtoms, Bundle.sN]))
 obtain ⟨n, o, h1, h2, h3, _, L, rfl, ⟨rfl, N⟩, hq⟩ := rm0 l s _ hw tables_1 i0 i1 i2 i3 i4 cs0 fm s.heap s.heap.size (Old.start s) S_CS c_CS S_AD S_HI S_LO S_FM rFM p e ha hc hk s m _ below hf ((Spec.applies_iff_loose hf).mp happ).1 ⟨rfl, State.Warmed39.refl s, rfl, hCH⟩ trivial
 obtain ⟨q1, q2, q3, q4⟩ := hq
 refine ⟨n, _, h1, h2, h3, hpost _ _ _ _ _ _ ⟨Cond.after_iff.mpr rfl, Cond.after_iff.mpr (eq_i res_at (Term.int_eval (1)) rfl), trivial⟩ ⟨q1, q2, q3, (q4.sift fun y hy => Or.inr (N y hy)).mono (by decide) (by decide)⟩⟩
theorem main_1_1 : Claimed_1_1 := comes_1 fun _ _ _ _ _ _ h hF => ⟨h.1, hF⟩
theorem main_1_2 : Claimed_1_2 := comes_1 fun _ _ _ _ _ _ h hF => ⟨h.2.1, hF⟩
end Jvm.Pilot.@@N@@
namespace Jvm.Pilot.@@N@@
open Jvm Jvm.ClassFile Sem Op Lib Jvm.Free Jvm.Stand Jvm.Pilot.@@N@@.Jvm.D
/-! MADE BY PROGRAM (witnessworld.py) out of the Statement's table words and the real class files: 27 classes; the members and pool entries that the words name. The judged class is class 1, her method 1. -/
namespace start1
open Jvm.ClassFile
def u (s : String) : CpInfo := .utf8 (stringToUtf16 s)
/-- a pool by its gaps: so many unusable entries, then the entry; so many at the end -/
def gap : Nat → List CpInfo → List CpInfo
  | 0, r => r
  | n + 1, r => .unusable :: gap n r
def poolList (es : List (Nat × CpInfo)) (last : Nat) : List CpInfo := es.foldr (fun e r => gap e.1 (e.2 :: r)) (gap last [])
def pool (es : List (Nat × CpInfo)) (last : Nat) : Array CpInfo := ⟨poolList es last⟩
def fileOf (pool : Array CpInfo) (this : Nat) (attrs : Array Attribute := #[]) (ms : Array MethodInfo := #[]) (fl : Nat := 33) (sup : Nat := 0) (ifs : Array Nat := #[]) (fds : Array FieldInfo := #[]) : ClassFile where
  minorVersion := 0
  majorVersion := 65
  constantPool := pool
  accessFlags := fl
  thisClass := this
  superClass := sup
  interfaces := ifs
  fields := fds
  methods := ms
  attributes := attrs
def plain (name : String) (sup : Option ClassId) : Class where
  name := name
  kind := .ordinary
  loader := none
  accessFlags := 33
  super := sup
  interfaces := #[]
  cf := none
  fields := #[]
  methods := #[]
  instanceTypes := #[]
  staticTypes := #[]
  resolved := #[]
  callSites := []
  init := .initialized
  statics := none
  mirror := none

def pool0 : Array CpInfo := pool [(5, u "<init>"), (0, u "()V"), (1, .class_ 10), (1, u "java/lang/Object")] 113

def k0c0 : Code := { maxStack := 0, maxLocals := 1, code := object_method_1_code, exceptionTable := #[], attributes := #[] }
def k0m0 : Method := { name := "<init>", desc := "()V", sig := { parameters := [], returnType := none }, accessFlags := 1, code := some k0c0 }
/-- java/lang/Object -/
def k0 : Class := { plain "java/lang/Object" none with
  accessFlags := 33
  interfaces := #[]
  cf := some (fileOf pool0 8 #[] #[{ accessFlags := 1, nameIndex := 5, descriptorIndex := 6, attributes := #[] }] 33 0 #[] #[])
  fields := #[]
  methods := #[k0m0]
  instanceTypes := #[]
  staticTypes := #[]
  resolved := Array.replicate 124 none
  statics := none }

def pool1 : Array CpInfo := pool [(2, .class_ 4), (1, u "java/lang/Object"), (0, u "<init>"), (0, u "()V"), (0, .integer 2147483647), (0, .methodref 9 10), (0, .class_ 11), (0, .nameAndType 12 13), (0, u "com/example/tidemark/tidemark/core/ReportLinesPrintablePinLaw"), (0, u "make"), (0, u "(ICCCC)[C"), (0, .class_ 15), (0, u "java/lang/String"), (0, .methodref 14 17), (0, .nameAndType 5 18), (0, u "([C)V"), (0, .methodref 20 21), (0, .class_ 22), (0, .nameAndType 23 24), (0, u "com/example/tidemark/tidemark/core/ReportLines"), (0, u "printable"), (0, u "(Ljava/lang/String;)Ljava/lang/String;"), (0, .methodref 14 26), (0, .nameAndType 27 28), (0, u "length"), (0, u "()I"), (0, .methodref 9 30), (0, .nameAndType 31 32), (0, u "at"), (0, u "(Ljava/lang/String;IIC)Z"), (0, .methodref 14 34), (0, .nameAndType 35 36), (0, u "charAt"), (0, u "(I)C"), (0, .methodref 9 38), (0, .nameAndType 39 40), (0, u "expect"), (0, u "(C)C"), (2, u "law"), (0, u "(IIIII)Z")] 5

def k1m0 : Method := { name := "<init>", desc := "()V", sig := { parameters := [], returnType := none }, accessFlags := 2, code := none }
def k1c1 : Code := { maxStack := 5, maxLocals := 12, code := code, exceptionTable := #[], attributes := #[] }
def k1m1 : Method := { name := "law", desc := "(IIIII)Z", sig := { parameters := [.int, .int, .int, .int, .int], returnType := some .boolean }, accessFlags := 9, code := some k1c1 }
def k1c2 : Code := { maxStack := 4, maxLocals := 5, code := method_3_code, exceptionTable := #[], attributes := #[] }
def k1m2 : Method := { name := "make", desc := "(ICCCC)[C", sig := { parameters := [.int, .char, .char, .char, .char], returnType := some (.array .char) }, accessFlags := 10, code := some k1c2 }
def k1c3 : Code := { maxStack := 2, maxLocals := 1, code := method_4_code, exceptionTable := #[], attributes := #[] }
def k1m3 : Method := { name := "expect", desc := "(C)C", sig := { parameters := [.char], returnType := some .char }, accessFlags := 10, code := some k1c3 }
def k1c4 : Code := { maxStack := 2, maxLocals := 4, code := method_5_code, exceptionTable := #[], attributes := #[] }
def k1m4 : Method := { name := "at", desc := "(Ljava/lang/String;IIC)Z", sig := { parameters := [(.object "java/lang/String"), .int, .int, .char], returnType := some .boolean }, accessFlags := 10, code := some k1c4 }
/-- com/example/tidemark/tidemark/core/ReportLinesPrintablePinLaw -/
def k1 : Class := { plain "com/example/tidemark/tidemark/core/ReportLinesPrintablePinLaw" (some 0) with
  accessFlags := 49
  interfaces := #[]
  cf := some (fileOf pool1 9 #[] #[{ accessFlags := 2, nameIndex := 5, descriptorIndex := 6, attributes := #[] }, { accessFlags := 9, nameIndex := 43, descriptorIndex := 44, attributes := #[] }, { accessFlags := 10, nameIndex := 12, descriptorIndex := 13, attributes := #[] }, { accessFlags := 10, nameIndex := 39, descriptorIndex := 40, attributes := #[] }, { accessFlags := 10, nameIndex := 31, descriptorIndex := 32, attributes := #[] }] 49 2 #[] #[])
  fields := #[]
  methods := #[k1m0, k1m1, k1m2, k1m3, k1m4]
  instanceTypes := #[]
  staticTypes := #[]
  resolved := Array.replicate 50 none
  statics := none }

def pool2 : Array CpInfo := pool [(1, .class_ 2), (0, u "java/io/Serializable"), (0, .class_ 4), (0, u "java/lang/Object")] 2

/-- java/io/Serializable -/
def k2 : Class := { plain "java/io/Serializable" (some 0) with
  accessFlags := 1537
  interfaces := #[]
  cf := some (fileOf pool2 1 #[] #[] 1537 3 #[] #[])
  fields := #[]
  methods := #[]
  instanceTypes := #[]
  staticTypes := #[]
  resolved := Array.replicate 7 none
  statics := none }

def pool3 : Array CpInfo := pool [(1, .class_ 2), (0, u "java/lang/Comparable"), (0, .class_ 4), (0, u "java/lang/Object")] 7

/-- java/lang/Comparable -/
def k3 : Class := { plain "java/lang/Comparable" (some 0) with
  accessFlags := 1537
  interfaces := #[]
  cf := some (fileOf pool3 1 #[] #[] 1537 3 #[] #[])
  fields := #[]
  methods := #[]
  instanceTypes := #[]
  staticTypes := #[]
  resolved := Array.replicate 12 none
  statics := none }

def pool4 : Array CpInfo := pool [(2, .class_ 4), (1, u "java/lang/CharSequence"), (42, .class_ 48), (0, u "java/lang/CharSequence$1CodePointIterator"), (10, .class_ 60), (0, u "java/lang/CharSequence$1CharIterator"), (5, .class_ 67), (0, u "java/lang/Object")] 63

/-- java/lang/CharSequence -/
def k4 : Class := { plain "java/lang/CharSequence" (some 0) with
  accessFlags := 1537
  interfaces := #[]
  cf := some (fileOf pool4 2 #[.nestMembers #[47, 59]] #[] 1537 66 #[] #[])
  fields := #[]
  methods := #[]
  instanceTypes := #[]
  staticTypes := #[]
  resolved := Array.replicate 131 none
  statics := none }

def pool5 : Array CpInfo := pool [(1, .class_ 2), (0, u "java/lang/constant/Constable"), (0, .class_ 4), (0, u "java/lang/Object")] 6

/-- java/lang/constant/Constable -/
def k5 : Class := { plain "java/lang/constant/Constable" (some 0) with
  accessFlags := 1537
  interfaces := #[]
  cf := some (fileOf pool5 1 #[] #[] 1537 3 #[] #[])
  fields := #[]
  methods := #[]
  instanceTypes := #[]
  staticTypes := #[]
  resolved := Array.replicate 11 none
  statics := none }

def pool6 : Array CpInfo := pool [(1, .class_ 2), (0, u "java/lang/constant/ConstantDesc"), (0, .class_ 4), (0, u "java/lang/Object")] 32

/-- java/lang/constant/ConstantDesc -/
def k6 : Class := { plain "java/lang/constant/ConstantDesc" (some 0) with
  accessFlags := 1537
  interfaces := #[]
  cf := some (fileOf pool6 1 #[] #[] 1537 3 #[] #[])
  fields := #[]
  methods := #[]
  instanceTypes := #[]
  staticTypes := #[]
  resolved := Array.replicate 37 none
  statics := none }

def pool7 : Array CpInfo := pool [(1, .methodref 2 3), (0, .class_ 4), (0, .nameAndType 5 6), (0, u "java/lang/Object"), (0, u "<init>"), (0, u "()V"), (0, .string 8), (0, u ""), (0, .fieldref 10 11), (0, .class_ 12), (0, .nameAndType 13 14), (0, u "java/lang/String"), (0, u "value"), (0, u "[B"), (0, .fieldref 10 16), (0, .nameAndType 17 18), (0, u "coder"), (0, u "B"), (2, u "hash"), (0, u "I"), (2, u "hashIsZero"), (0, u "Z"), (0, .methodref 10 28), (0, .nameAndType 5 29), (0, u "([CIILjava/lang/Void;)V"), (6, u "checkBoundsOffCount"), (0, u "(III)I"), (0, .fieldref 10 39), (0, .nameAndType 40 26), (0, u "COMPACT_STRINGS"), (1, .class_ 44), (1, u "java/lang/StringUTF16"), (0, u "compress"), (1, .methodref 42 48), (0, .nameAndType 49 50), (0, u "coderFromArrayLen"), (0, u "([BI)B"), (3, .methodref 55 56), (0, .class_ 57), (0, .nameAndType 58 59), (0, u "java/util/Arrays"), (0, u "copyOfRange"), (0, u "([BII)[B"), (47, .class_ 109), (1, u "java/lang/StringLatin1"), (32, u "()Z"), (34, .methodref 42 178), (0, .nameAndType 45 179), (0, u "([CII)[B"), (13, .class_ 195), (1, u "java/lang/System"), (16, .methodref 193 213), (0, .nameAndType 214 215), (0, u "arraycopy"), (0, u "(Ljava/lang/Object;ILjava/lang/Object;II)V"), (118, u "()I"), (0, .methodref 10 336), (0, .nameAndType 17 337), (0, u "()B"), (2, u "()[B"), (22, u "([BI)C"), (27, u "(II)V"), (35, u "(I)C"), (61, .methodref 10 490), (0, .nameAndType 5 491), (0, u "(Ljava/lang/AbstractStringBuilder;Ljava/lang/Void;)V"), (0, .methodref 10 493), (0, .nameAndType 494 142), (0, u "isLatin1"), (0, .methodref 107 496), (0, .nameAndType 497 363), (0, u "charAt"), (0, .methodref 42 496), (2, u "checkIndex"), (4, .nameAndType 507 334), (0, u "length"), (24, u "getBytes"), (16, .methodref 550 506), (0, .class_ 551), (0, u "java/lang/AbstractStringBuilder"), (0, .methodref 550 553), (0, .nameAndType 554 340), (0, u "getValue"), (20, .class_ 576), (0, u "java/lang/CharSequence"), (22, u "CASE_INSENSITIVE_ORDER"), (0, u "Ljava/util/Comparator;"), (220, u "([BIB)V"), (188, u "([C)V"), (36, .methodref 550 493), (0, .fieldref 550 1049), (0, .nameAndType 1050 26), (0, u "maybeLatin1"), (0, .methodref 42 1052), (0, .nameAndType 45 59), (0, .fieldref 1054 1055), (0, .class_ 1056), (0, .nameAndType 1057 1058), (0, u "jdk/internal/util/Preconditions"), (0, u "SIOOBE_FORMATTER"), (0, u "Ljava/util/function/BiFunction;"), (0, .methodref 1054 1060), (0, .nameAndType 501 1061), (0, u "(IILjava/util/function/BiFunction;)I"), (2, u "(IIILjava/util/function/BiFunction;)I"), (0, .methodref 1054 1066), (0, .nameAndType 1067 1064), (0, u "checkFromIndexSize"), (33, u "serialPersistentFields"), (0, u "[Ljava/io/ObjectStreamField;"), (0, .class_ 1104), (0, u "java/lang/String$CaseInsensitiveComparator"), (1, .class_ 1107), (0, u "java/io/Serializable"), (0, .class_ 1109), (0, u "java/lang/Comparable"), (0, .class_ 1111), (0, u "java/lang/constant/Constable"), (0, .class_ 1113), (0, u "java/lang/constant/ConstantDesc"), (2, u "serialVersionUID"), (0, u "J"), (3, u "REPL"), (0, u "C"), (2, u "LATIN1"), (1, u "UTF16"), (105, u "(Ljava/lang/StringBuilder;)V")] 217

def k7m0 : Method := { name := "<init>", desc := "()V", sig := { parameters := [], returnType := none }, accessFlags := 1, code := none }
def k7c1 : Code := { maxStack := 5, maxLocals := 2, code := jdk_42_method_3_code, exceptionTable := #[], attributes := #[] }
def k7m1 : Method := { name := "<init>", desc := "([C)V", sig := { parameters := [(.array .char)], returnType := none }, accessFlags := 1, code := some k7c1 }
def k7c2 : Code := { maxStack := 3, maxLocals := 2, code := jdk_42_method_53_code, exceptionTable := #[], attributes := #[] }
def k7m2 : Method := { name := "<init>", desc := "(Ljava/lang/StringBuilder;)V", sig := { parameters := [(.object "java/lang/StringBuilder")], returnType := none }, accessFlags := 1, code := some k7c2 }
def k7c3 : Code := { maxStack := 2, maxLocals := 1, code := jdk_42_method_54_code, exceptionTable := #[], attributes := #[] }
def k7m3 : Method := { name := "length", desc := "()I", sig := { parameters := [], returnType := some .int }, accessFlags := 1, code := some k7c3 }
def k7c4 : Code := { maxStack := 2, maxLocals := 2, code := jdk_42_method_56_code, exceptionTable := #[], attributes := #[] }
def k7m4 : Method := { name := "charAt", desc := "(I)C", sig := { parameters := [.int], returnType := some .char }, accessFlags := 1, code := some k7c4 }
def k7c5 : Code := { maxStack := 5, maxLocals := 4, code := jdk_42_method_147_code, exceptionTable := #[], attributes := #[] }
def k7m5 : Method := { name := "getBytes", desc := "([BIB)V", sig := { parameters := [(.array .byte), .int, .byte], returnType := none }, accessFlags := 0, code := some k7c5 }
def k7c6 : Code := { maxStack := 4, maxLocals := 6, code := jdk_42_method_149_code, exceptionTable := #[], attributes := #[] }
def k7m6 : Method := { name := "<init>", desc := "([CIILjava/lang/Void;)V", sig := { parameters := [(.array .char), .int, .int, (.object "java/lang/Void")], returnType := none }, accessFlags := 2, code := some k7c6 }
def k7c7 : Code := { maxStack := 5, maxLocals := 5, code := jdk_42_method_150_code, exceptionTable := #[], attributes := #[] }
def k7m7 : Method := { name := "<init>", desc := "(Ljava/lang/AbstractStringBuilder;Ljava/lang/Void;)V", sig := { parameters := [(.object "java/lang/AbstractStringBuilder"), (.object "java/lang/Void")], returnType := none }, accessFlags := 0, code := some k7c7 }
def k7c8 : Code := { maxStack := 1, maxLocals := 1, code := jdk_42_method_152_code, exceptionTable := #[], attributes := #[] }
def k7m8 : Method := { name := "coder", desc := "()B", sig := { parameters := [], returnType := some .byte }, accessFlags := 0, code := some k7c8 }
def k7c9 : Code := { maxStack := 1, maxLocals := 1, code := jdk_42_method_154_code, exceptionTable := #[], attributes := #[] }
def k7m9 : Method := { name := "isLatin1", desc := "()Z", sig := { parameters := [], returnType := some .boolean }, accessFlags := 0, code := some k7c9 }
def k7c10 : Code := { maxStack := 3, maxLocals := 2, code := jdk_42_method_155_code, exceptionTable := #[], attributes := #[] }
def k7m10 : Method := { name := "checkIndex", desc := "(II)V", sig := { parameters := [.int, .int], returnType := none }, accessFlags := 8, code := some k7c10 }
def k7c11 : Code := { maxStack := 4, maxLocals := 3, code := jdk_42_method_157_code, exceptionTable := #[], attributes := #[] }
def k7m11 : Method := { name := "checkBoundsOffCount", desc := "(III)I", sig := { parameters := [.int, .int, .int], returnType := some .int }, accessFlags := 8, code := some k7c11 }
/-- java/lang/String -/
def k7 : Class := { plain "java/lang/String" (some 0) with
  accessFlags := 49
  interfaces := #[2, 3, 4, 5, 6]
  cf := some (fileOf pool7 10 #[.nestMembers #[1103]] #[{ accessFlags := 1, nameIndex := 5, descriptorIndex := 6, attributes := #[] }, { accessFlags := 1, nameIndex := 5, descriptorIndex := 1010, attributes := #[] }, { accessFlags := 1, nameIndex := 5, descriptorIndex := 1233, attributes := #[] }, { accessFlags := 1, nameIndex := 507, descriptorIndex := 334, attributes := #[] }, { accessFlags := 1, nameIndex := 497, descriptorIndex := 427, attributes := #[] }, { accessFlags := 0, nameIndex := 532, descriptorIndex := 821, attributes := #[] }, { accessFlags := 2, nameIndex := 5, descriptorIndex := 29, attributes := #[] }, { accessFlags := 0, nameIndex := 5, descriptorIndex := 491, attributes := #[] }, { accessFlags := 0, nameIndex := 17, descriptorIndex := 337, attributes := #[] }, { accessFlags := 0, nameIndex := 494, descriptorIndex := 142, attributes := #[] }, { accessFlags := 8, nameIndex := 501, descriptorIndex := 391, attributes := #[] }, { accessFlags := 8, nameIndex := 36, descriptorIndex := 37, attributes := #[] }] 49 2 #[1106, 1108, 575, 1110, 1112] #[{ accessFlags := 18, nameIndex := 13, descriptorIndex := 14, attributes := #[] }, { accessFlags := 18, nameIndex := 17, descriptorIndex := 18, attributes := #[] }, { accessFlags := 2, nameIndex := 21, descriptorIndex := 22, attributes := #[] }, { accessFlags := 2, nameIndex := 25, descriptorIndex := 26, attributes := #[] }, { accessFlags := 26, nameIndex := 1116, descriptorIndex := 1117, attributes := #[] }, { accessFlags := 24, nameIndex := 40, descriptorIndex := 26, attributes := #[] }, { accessFlags := 26, nameIndex := 1101, descriptorIndex := 1102, attributes := #[] }, { accessFlags := 26, nameIndex := 1121, descriptorIndex := 1122, attributes := #[] }, { accessFlags := 25, nameIndex := 599, descriptorIndex := 600, attributes := #[] }, { accessFlags := 24, nameIndex := 1125, descriptorIndex := 18, attributes := #[] }, { accessFlags := 24, nameIndex := 1127, descriptorIndex := 18, attributes := #[] }])
  fields := #[{ name := "value", type := (.array .byte), accessFlags := 18, slot := 0, constantValue := 0 }, { name := "coder", type := .byte, accessFlags := 18, slot := 1, constantValue := 0 }, { name := "hash", type := .int, accessFlags := 2, slot := 2, constantValue := 0 }, { name := "hashIsZero", type := .boolean, accessFlags := 2, slot := 3, constantValue := 0 }, { name := "serialVersionUID", type := .long, accessFlags := 26, slot := 0, constantValue := 0 }, { name := "COMPACT_STRINGS", type := .boolean, accessFlags := 24, slot := 1, constantValue := 0 }, { name := "serialPersistentFields", type := (.array (.object "java/io/ObjectStreamField")), accessFlags := 26, slot := 2, constantValue := 0 }, { name := "REPL", type := .char, accessFlags := 26, slot := 3, constantValue := 0 }, { name := "CASE_INSENSITIVE_ORDER", type := (.object "java/util/Comparator"), accessFlags := 25, slot := 4, constantValue := 0 }, { name := "LATIN1", type := .byte, accessFlags := 24, slot := 5, constantValue := 0 }, { name := "UTF16", type := .byte, accessFlags := 24, slot := 6, constantValue := 0 }]
  methods := #[k7m0, k7m1, k7m2, k7m3, k7m4, k7m5, k7m6, k7m7, k7m8, k7m9, k7m10, k7m11]
  instanceTypes := #[(.array .byte), .byte, .int, .boolean]
  staticTypes := #[.long, .boolean, (.array (.object "java/io/ObjectStreamField")), .char, (.object "java/util/Comparator"), .byte, .byte]
  resolved := Array.replicate 1451 none
  statics := some 0 }

def pool8 : Array CpInfo := pool [(2, .class_ 4), (1, u "java/lang/Object"), (0, u "<init>"), (0, u "()V"), (0, .class_ 8), (0, u "java/lang/StringBuilder"), (0, .methodref 7 10), (0, .nameAndType 5 11), (0, u "(Ljava/lang/String;)V"), (0, .methodref 7 13), (0, .nameAndType 14 15), (0, u "length"), (0, u "()I"), (0, .methodref 7 17), (0, .nameAndType 18 19), (0, u "charAt"), (0, u "(I)C"), (0, .methodref 21 22), (0, .class_ 23), (0, .nameAndType 24 25), (0, u "java/lang/Character"), (0, u "isISOControl"), (0, u "(C)Z"), (0, .methodref 7 27), (0, .nameAndType 28 29), (0, u "setCharAt"), (0, u "(IC)V"), (0, .methodref 7 31), (0, .nameAndType 32 33), (0, u "toString"), (0, u "()Ljava/lang/String;"), (23, .class_ 59), (1, u "com/example/tidemark/tidemark/core/ReportLines"), (0, u "BYTE_ORDER"), (0, u "Ljava/util/Comparator;"), (4, u "printable"), (0, u "(Ljava/lang/String;)Ljava/lang/String;")] 26

def k8m0 : Method := { name := "<init>", desc := "()V", sig := { parameters := [], returnType := none }, accessFlags := 2, code := none }
def k8c1 : Code := { maxStack := 3, maxLocals := 3, code := prog_48_method_2_code, exceptionTable := #[], attributes := #[] }
def k8m1 : Method := { name := "printable", desc := "(Ljava/lang/String;)Ljava/lang/String;", sig := { parameters := [(.object "java/lang/String")], returnType := some (.object "java/lang/String") }, accessFlags := 8, code := some k8c1 }
/-- com/example/tidemark/tidemark/core/ReportLines -/
def k8 : Class := { plain "com/example/tidemark/tidemark/core/ReportLines" (some 0) with
  accessFlags := 48
  interfaces := #[]
  cf := some (fileOf pool8 57 #[] #[{ accessFlags := 2, nameIndex := 5, descriptorIndex := 6, attributes := #[] }, { accessFlags := 8, nameIndex := 66, descriptorIndex := 67, attributes := #[] }] 48 2 #[] #[{ accessFlags := 24, nameIndex := 60, descriptorIndex := 61, attributes := #[] }])
  fields := #[{ name := "BYTE_ORDER", type := (.object "java/util/Comparator"), accessFlags := 24, slot := 0, constantValue := 0 }]
  methods := #[k8m0, k8m1]
  instanceTypes := #[]
  staticTypes := #[(.object "java/util/Comparator")]
  resolved := Array.replicate 94 none
  statics := none }

def pool9 : Array CpInfo := pool [(1, .class_ 2), (0, u "java/lang/Appendable"), (0, .class_ 4), (0, u "java/lang/Object")] 9

/-- java/lang/Appendable -/
def k9 : Class := { plain "java/lang/Appendable" (some 0) with
  accessFlags := 1537
  interfaces := #[]
  cf := some (fileOf pool9 1 #[] #[] 1537 3 #[] #[])
  fields := #[]
  methods := #[]
  instanceTypes := #[]
  staticTypes := #[]
  resolved := Array.replicate 14 none
  statics := none }

def pool10 : Array CpInfo := pool [(1, .class_ 2), (0, u "java/lang/String"), (0, .methodref 4 5), (0, .class_ 6), (0, .nameAndType 7 8), (0, u "java/lang/Object"), (0, u "<init>"), (0, u "()V"), (1, .class_ 12), (1, u "java/lang/AbstractStringBuilder"), (0, u "EMPTYVALUE"), (0, u "[B"), (0, .fieldref 10 16), (0, .nameAndType 17 14), (0, u "value"), (0, .fieldref 1 19), (0, .nameAndType 20 21), (0, u "COMPACT_STRINGS"), (0, u "Z"), (0, .fieldref 10 23), (0, .nameAndType 24 25), (0, u "coder"), (0, u "B"), (0, .methodref 27 28), (0, .class_ 29), (0, .nameAndType 30 31), (0, u "java/lang/StringUTF16"), (0, u "newBytesFor"), (0, u "(I)[B"), (0, .methodref 1 33), (0, .nameAndType 34 35), (0, u "length"), (0, u "()I"), (2, .integer 2147483631), (1, .methodref 1 41), (0, .nameAndType 24 42), (0, u "()B"), (0, .methodref 10 44), (0, .nameAndType 45 46), (0, u "append"), (0, u "(Ljava/lang/String;)Ljava/lang/AbstractStringBuilder;"), (1, .class_ 49), (0, u "java/lang/CharSequence"), (19, u "(Ljava/lang/String;)V"), (3, .fieldref 10 74), (0, .nameAndType 75 21), (0, u "maybeLatin1"), (3, .fieldref 10 80), (0, .nameAndType 81 82), (0, u "count"), (0, u "I"), (0, .methodref 10 84), (0, .nameAndType 85 86), (0, u "isLatin1"), (0, u "()Z"), (1, .class_ 90), (1, u "java/lang/StringLatin1"), (9, .methodref 10 101), (0, .nameAndType 102 103), (0, u "ensureCapacityInternal"), (0, u "(I)V"), (32, u "([BII)V"), (1, .methodref 139 140), (0, .class_ 141), (0, .nameAndType 142 143), (0, u "java/lang/Math"), (0, u "min"), (0, u "(II)I"), (0, .methodref 1 145), (0, .nameAndType 146 147), (0, u "checkIndex"), (0, u "(II)V"), (0, .methodref 27 149), (0, .nameAndType 150 151), (0, u "getChar"), (0, u "([BI)C"), (39, .methodref 88 192), (0, .nameAndType 193 194), (0, u "canEncode"), (0, u "(C)Z"), (2, .methodref 27 198), (0, .nameAndType 199 136), (0, u "putCharSB"), (8, .methodref 10 209), (0, .nameAndType 210 211), (0, u "putStringAt"), (0, u "(ILjava/lang/String;)V"), (5, u "inflateIfNeededFor"), (2, .nameAndType 221 222), (0, u "getBytes"), (0, u "([BIB)V"), (169, u "charAt"), (0, u "(I)C"), (3, .methodref 10 398), (0, .nameAndType 217 69), (0, .methodref 1 220), (3, u "()[B"), (40, .class_ 445), (0, u "java/lang/Appendable"), (46, u "setCharAt"), (0, u "(IC)V"), (58, u "getValue")] 56

def k10m0 : Method := { name := "<init>", desc := "()V", sig := { parameters := [], returnType := none }, accessFlags := 0, code := none }
def k10c1 : Code := { maxStack := 2, maxLocals := 5, code := jdk_68_method_3_code, exceptionTable := #[], attributes := #[] }
def k10m1 : Method := { name := "<init>", desc := "(Ljava/lang/String;)V", sig := { parameters := [(.object "java/lang/String")], returnType := none }, accessFlags := 0, code := some k10c1 }
def k10c2 : Code := { maxStack := 1, maxLocals := 1, code := jdk_68_method_6_code, exceptionTable := #[], attributes := #[] }
def k10m2 : Method := { name := "length", desc := "()I", sig := { parameters := [], returnType := some .int }, accessFlags := 1, code := some k10c2 }
def k10c3 : Code := { maxStack := 4, maxLocals := 3, code := jdk_68_method_9_code, exceptionTable := #[], attributes := #[] }
def k10m3 : Method := { name := "ensureCapacityInternal", desc := "(I)V", sig := { parameters := [.int], returnType := none }, accessFlags := 2, code := some k10c3 }
def k10c4 : Code := { maxStack := 3, maxLocals := 5, code := jdk_68_method_14_code, exceptionTable := #[], attributes := #[] }
def k10m4 : Method := { name := "charAt", desc := "(I)C", sig := { parameters := [.int], returnType := some .char }, accessFlags := 1, code := some k10c4 }
def k10c5 : Code := { maxStack := 3, maxLocals := 3, code := jdk_68_method_20_code, exceptionTable := #[], attributes := #[] }
def k10m5 : Method := { name := "setCharAt", desc := "(IC)V", sig := { parameters := [.int, .char], returnType := none }, accessFlags := 1, code := some k10c5 }
def k10c6 : Code := { maxStack := 3, maxLocals := 3, code := jdk_68_method_22_code, exceptionTable := #[], attributes := #[] }
def k10m6 : Method := { name := "append", desc := "(Ljava/lang/String;)Ljava/lang/AbstractStringBuilder;", sig := { parameters := [(.object "java/lang/String")], returnType := some (.object "java/lang/AbstractStringBuilder") }, accessFlags := 1, code := some k10c6 }
def k10c7 : Code := { maxStack := 1, maxLocals := 1, code := jdk_68_method_64_code, exceptionTable := #[], attributes := #[] }
def k10m7 : Method := { name := "getValue", desc := "()[B", sig := { parameters := [], returnType := some (.array .byte) }, accessFlags := 16, code := some k10c7 }
def k10c8 : Code := { maxStack := 1, maxLocals := 1, code := jdk_68_method_68_code, exceptionTable := #[], attributes := #[] }
def k10m8 : Method := { name := "isLatin1", desc := "()Z", sig := { parameters := [], returnType := some .boolean }, accessFlags := 16, code := some k10c8 }
def k10c9 : Code := { maxStack := 2, maxLocals := 2, code := jdk_68_method_71_code, exceptionTable := #[], attributes := #[] }
def k10m9 : Method := { name := "inflateIfNeededFor", desc := "(Ljava/lang/String;)V", sig := { parameters := [(.object "java/lang/String")], returnType := none }, accessFlags := 2, code := some k10c9 }
def k10c10 : Code := { maxStack := 4, maxLocals := 3, code := jdk_68_method_73_code, exceptionTable := #[], attributes := #[] }
def k10m10 : Method := { name := "putStringAt", desc := "(ILjava/lang/String;)V", sig := { parameters := [.int, (.object "java/lang/String")], returnType := none }, accessFlags := 2, code := some k10c10 }
/-- java/lang/AbstractStringBuilder -/
def k10 : Class := { plain "java/lang/AbstractStringBuilder" (some 0) with
  accessFlags := 1056
  interfaces := #[9, 4]
  cf := some (fileOf pool10 10 #[] #[{ accessFlags := 0, nameIndex := 7, descriptorIndex := 8, attributes := #[] }, { accessFlags := 0, nameIndex := 7, descriptorIndex := 69, attributes := #[] }, { accessFlags := 1, nameIndex := 34, descriptorIndex := 35, attributes := #[] }, { accessFlags := 2, nameIndex := 102, descriptorIndex := 103, attributes := #[] }, { accessFlags := 1, nameIndex := 392, descriptorIndex := 393, attributes := #[] }, { accessFlags := 1, nameIndex := 492, descriptorIndex := 493, attributes := #[] }, { accessFlags := 1, nameIndex := 45, descriptorIndex := 46, attributes := #[] }, { accessFlags := 16, nameIndex := 552, descriptorIndex := 403, attributes := #[] }, { accessFlags := 16, nameIndex := 85, descriptorIndex := 86, attributes := #[] }, { accessFlags := 2, nameIndex := 217, descriptorIndex := 69, attributes := #[] }, { accessFlags := 2, nameIndex := 210, descriptorIndex := 211, attributes := #[] }] 1056 4 #[444, 48] #[{ accessFlags := 0, nameIndex := 17, descriptorIndex := 14, attributes := #[] }, { accessFlags := 0, nameIndex := 24, descriptorIndex := 25, attributes := #[] }, { accessFlags := 0, nameIndex := 75, descriptorIndex := 21, attributes := #[] }, { accessFlags := 0, nameIndex := 81, descriptorIndex := 82, attributes := #[] }, { accessFlags := 26, nameIndex := 13, descriptorIndex := 14, attributes := #[] }])
  fields := #[{ name := "value", type := (.array .byte), accessFlags := 0, slot := 0, constantValue := 0 }, { name := "coder", type := .byte, accessFlags := 0, slot := 1, constantValue := 0 }, { name := "maybeLatin1", type := .boolean, accessFlags := 0, slot := 2, constantValue := 0 }, { name := "count", type := .int, accessFlags := 0, slot := 3, constantValue := 0 }, { name := "EMPTYVALUE", type := (.array .byte), accessFlags := 26, slot := 0, constantValue := 0 }]
  methods := #[k10m0, k10m1, k10m2, k10m3, k10m4, k10m5, k10m6, k10m7, k10m8, k10m9, k10m10]
  instanceTypes := #[(.array .byte), .byte, .boolean, .int]
  staticTypes := #[(.array .byte)]
  resolved := Array.replicate 609 none
  statics := none }

def pool11 : Array CpInfo := pool [(2, .class_ 4), (1, u "java/lang/AbstractStringBuilder"), (0, u "<init>"), (1, .methodref 2 8), (0, .nameAndType 5 9), (0, u "(Ljava/lang/String;)V"), (8, .class_ 20), (1, u "java/lang/String"), (2, .methodref 24 25), (0, .class_ 26), (0, .nameAndType 27 28), (0, u "java/lang/StringBuilder"), (0, u "append"), (0, u "(Ljava/lang/String;)Ljava/lang/StringBuilder;"), (0, .methodref 2 30), (0, .nameAndType 27 31), (0, u "(Ljava/lang/String;)Ljava/lang/AbstractStringBuilder;"), (105, .methodref 18 138), (0, .nameAndType 5 139), (0, u "(Ljava/lang/StringBuilder;)V"), (5, u "()V"), (10, u "()I"), (151, .methodref 2 309), (0, .nameAndType 310 311), (0, u "setCharAt"), (0, u "(IC)V"), (17, .methodref 2 330), (0, .nameAndType 331 332), (0, u "charAt"), (0, u "(I)C"), (10, .methodref 2 344), (0, .nameAndType 345 156), (0, u "length"), (3, .class_ 350), (0, u "java/lang/Appendable"), (0, .class_ 352), (0, u "java/io/Serializable"), (0, .class_ 354), (0, u "java/lang/Comparable"), (0, .class_ 356), (0, u "java/lang/CharSequence"), (0, u "serialVersionUID"), (0, u "J"), (40, u "toString"), (0, u "()Ljava/lang/String;")] 21

def k11m0 : Method := { name := "<init>", desc := "()V", sig := { parameters := [], returnType := none }, accessFlags := 1, code := none }
def k11c1 : Code := { maxStack := 2, maxLocals := 2, code := jdk_67_method_3_code, exceptionTable := #[], attributes := #[] }
def k11m1 : Method := { name := "<init>", desc := "(Ljava/lang/String;)V", sig := { parameters := [(.object "java/lang/String")], returnType := none }, accessFlags := 1, code := some k11c1 }
def k11c2 : Code := { maxStack := 2, maxLocals := 2, code := jdk_67_method_7_code, exceptionTable := #[], attributes := #[] }
def k11m2 : Method := { name := "append", desc := "(Ljava/lang/String;)Ljava/lang/StringBuilder;", sig := { parameters := [(.object "java/lang/String")], returnType := some (.object "java/lang/StringBuilder") }, accessFlags := 1, code := some k11c2 }
def k11c3 : Code := { maxStack := 3, maxLocals := 1, code := jdk_67_method_42_code, exceptionTable := #[], attributes := #[] }
def k11m3 : Method := { name := "toString", desc := "()Ljava/lang/String;", sig := { parameters := [], returnType := some (.object "java/lang/String") }, accessFlags := 1, code := some k11c3 }
def k11c4 : Code := { maxStack := 2, maxLocals := 2, code := jdk_67_method_80_code, exceptionTable := #[], attributes := #[] }
def k11m4 : Method := { name := "append", desc := "(Ljava/lang/String;)Ljava/lang/AbstractStringBuilder;", sig := { parameters := [(.object "java/lang/String")], returnType := some (.object "java/lang/AbstractStringBuilder") }, accessFlags := 4161, code := some k11c4 }
def k11c5 : Code := { maxStack := 3, maxLocals := 3, code := jdk_67_method_82_code, exceptionTable := #[], attributes := #[] }
def k11m5 : Method := { name := "setCharAt", desc := "(IC)V", sig := { parameters := [.int, .char], returnType := none }, accessFlags := 4161, code := some k11c5 }
def k11c6 : Code := { maxStack := 2, maxLocals := 2, code := jdk_67_method_88_code, exceptionTable := #[], attributes := #[] }
def k11m6 : Method := { name := "charAt", desc := "(I)C", sig := { parameters := [.int], returnType := some .char }, accessFlags := 4161, code := some k11c6 }
def k11c7 : Code := { maxStack := 1, maxLocals := 1, code := jdk_67_method_93_code, exceptionTable := #[], attributes := #[] }
def k11m7 : Method := { name := "length", desc := "()I", sig := { parameters := [], returnType := some .int }, accessFlags := 4161, code := some k11c7 }
/-- java/lang/StringBuilder -/
def k11 : Class := { plain "java/lang/StringBuilder" (some 10) with
  accessFlags := 49
  interfaces := #[9, 2, 3, 4]
  cf := some (fileOf pool11 24 #[] #[{ accessFlags := 1, nameIndex := 5, descriptorIndex := 145, attributes := #[] }, { accessFlags := 1, nameIndex := 5, descriptorIndex := 9, attributes := #[] }, { accessFlags := 1, nameIndex := 27, descriptorIndex := 28, attributes := #[] }, { accessFlags := 1, nameIndex := 399, descriptorIndex := 400, attributes := #[] }, { accessFlags := 4161, nameIndex := 27, descriptorIndex := 31, attributes := #[] }, { accessFlags := 4161, nameIndex := 310, descriptorIndex := 311, attributes := #[] }, { accessFlags := 4161, nameIndex := 331, descriptorIndex := 332, attributes := #[] }, { accessFlags := 4161, nameIndex := 345, descriptorIndex := 156, attributes := #[] }] 49 2 #[349, 351, 353, 355] #[{ accessFlags := 24, nameIndex := 357, descriptorIndex := 358, attributes := #[] }])
  fields := #[{ name := "serialVersionUID", type := .long, accessFlags := 24, slot := 0, constantValue := 0 }]
  methods := #[k11m0, k11m1, k11m2, k11m3, k11m4, k11m5, k11m6, k11m7]
  instanceTypes := #[(.array .byte), .byte, .boolean, .int]
  staticTypes := #[.long]
  resolved := Array.replicate 422 none
  statics := none }

def pool12 : Array CpInfo := pool [(2, .class_ 4), (1, u "java/lang/Object"), (0, u "<init>"), (0, u "()V"), (1, .class_ 10), (1, u "java/lang/System"), (0, u "allowSecurityManager"), (0, u "I"), (16, u "cons"), (0, u "Ljava/io/Console;"), (77, .class_ 110), (1, u "java/lang/System$CallersHolder"), (43, u "initialErrStream"), (0, u "Ljava/io/PrintStream;"), (19, u "security"), (0, u "Ljava/lang/SecurityManager;"), (31, .class_ 209), (0, u "java/lang/System$1"), (7, u "props"), (0, u "Ljava/util/Properties;"), (2, u "lineSeparator"), (0, u "Ljava/lang/String;"), (96, .class_ 321), (1, u "java/lang/System$LoggerFinder"), (5, .class_ 328), (0, u "java/lang/System$Logger"), (67, u "err"), (2, u "out"), (91, u "notSupportedJnuEncoding"), (15, u "in"), (17, u "initialIn"), (0, u "Ljava/io/InputStream;"), (35, u "bootLayer"), (0, u "Ljava/lang/ModuleLayer;"), (99, .class_ 664), (0, u "java/lang/System$2"), (9, u "NEVER"), (2, u "MAYBE"), (49, u "arraycopy"), (0, u "(Ljava/lang/Object;ILjava/lang/Object;II)V"), (72, .class_ 802), (0, u "java/lang/System$Logger$Level")] 31

def k12m0 : Method := { name := "<init>", desc := "()V", sig := { parameters := [], returnType := none }, accessFlags := 2, code := none }
def k12m1 : Method := { name := "arraycopy", desc := "(Ljava/lang/Object;ILjava/lang/Object;II)V", sig := { parameters := [(.object "java/lang/Object"), .int, (.object "java/lang/Object"), .int, .int], returnType := none }, accessFlags := 265, code := none }
/-- java/lang/System -/
def k12 : Class := { plain "java/lang/System" (some 0) with
  accessFlags := 49
  interfaces := #[]
  cf := some (fileOf pool12 8 #[.nestMembers #[319, 327, 801, 108, 663, 208]] #[{ accessFlags := 2, nameIndex := 5, descriptorIndex := 6, attributes := #[] }, { accessFlags := 265, nameIndex := 727, descriptorIndex := 728, attributes := #[] }] 49 2 #[] #[{ accessFlags := 25, nameIndex := 507, descriptorIndex := 526, attributes := #[] }, { accessFlags := 25, nameIndex := 399, descriptorIndex := 155, attributes := #[] }, { accessFlags := 25, nameIndex := 396, descriptorIndex := 155, attributes := #[] }, { accessFlags := 10, nameIndex := 525, descriptorIndex := 526, attributes := #[] }, { accessFlags := 26, nameIndex := 674, descriptorIndex := 12, attributes := #[] }, { accessFlags := 26, nameIndex := 677, descriptorIndex := 12, attributes := #[] }, { accessFlags := 10, nameIndex := 11, descriptorIndex := 12, attributes := #[] }, { accessFlags := 74, nameIndex := 175, descriptorIndex := 176, attributes := #[] }, { accessFlags := 10, nameIndex := 491, descriptorIndex := 222, attributes := #[] }, { accessFlags := 74, nameIndex := 29, descriptorIndex := 30, attributes := #[] }, { accessFlags := 74, nameIndex := 154, descriptorIndex := 155, attributes := #[] }, { accessFlags := 10, nameIndex := 217, descriptorIndex := 218, attributes := #[] }, { accessFlags := 10, nameIndex := 221, descriptorIndex := 222, attributes := #[] }, { accessFlags := 8, nameIndex := 562, descriptorIndex := 563, attributes := #[] }])
  fields := #[{ name := "in", type := (.object "java/io/InputStream"), accessFlags := 25, slot := 0, constantValue := 0 }, { name := "out", type := (.object "java/io/PrintStream"), accessFlags := 25, slot := 1, constantValue := 0 }, { name := "err", type := (.object "java/io/PrintStream"), accessFlags := 25, slot := 2, constantValue := 0 }, { name := "initialIn", type := (.object "java/io/InputStream"), accessFlags := 10, slot := 3, constantValue := 0 }, { name := "NEVER", type := .int, accessFlags := 26, slot := 4, constantValue := 0 }, { name := "MAYBE", type := .int, accessFlags := 26, slot := 5, constantValue := 0 }, { name := "allowSecurityManager", type := .int, accessFlags := 10, slot := 6, constantValue := 0 }, { name := "security", type := (.object "java/lang/SecurityManager"), accessFlags := 74, slot := 7, constantValue := 0 }, { name := "notSupportedJnuEncoding", type := (.object "java/lang/String"), accessFlags := 10, slot := 8, constantValue := 0 }, { name := "cons", type := (.object "java/io/Console"), accessFlags := 74, slot := 9, constantValue := 0 }, { name := "initialErrStream", type := (.object "java/io/PrintStream"), accessFlags := 74, slot := 10, constantValue := 0 }, { name := "props", type := (.object "java/util/Properties"), accessFlags := 10, slot := 11, constantValue := 0 }, { name := "lineSeparator", type := (.object "java/lang/String"), accessFlags := 10, slot := 12, constantValue := 0 }, { name := "bootLayer", type := (.object "java/lang/ModuleLayer"), accessFlags := 8, slot := 13, constantValue := 0 }]
  methods := #[k12m0, k12m1]
  instanceTypes := #[]
  staticTypes := #[(.object "java/io/InputStream"), (.object "java/io/PrintStream"), (.object "java/io/PrintStream"), (.object "java/io/InputStream"), .int, .int, .int, (.object "java/lang/SecurityManager"), (.object "java/lang/String"), (.object "java/io/Console"), (.object "java/io/PrintStream"), (.object "java/util/Properties"), (.object "java/lang/String"), (.object "java/lang/ModuleLayer")]
  resolved := Array.replicate 834 none
  statics := none }

def pool13 : Array CpInfo := pool [(2, .class_ 4), (1, u "java/lang/Object"), (0, u "<init>"), (0, u "()V"), (7, .class_ 16), (1, u "java/util/Arrays"), (57, .class_ 76), (1, u "java/util/Arrays$NaturalOrder"), (36, .class_ 115), (1, u "java/util/Arrays$LegacyMergeSort"), (1, u "Z"), (21, u "copyOfRange"), (10, .methodref 151 152), (0, .class_ 153), (0, .nameAndType 154 155), (0, u "java/lang/System"), (0, u "arraycopy"), (0, u "(Ljava/lang/Object;ILjava/lang/Object;II)V"), (148, .methodref 305 306), (0, .class_ 307), (0, .nameAndType 308 309), (0, u "java/lang/Math"), (0, u "min"), (0, u "(II)I"), (29, .methodref 14 340), (0, .nameAndType 341 342), (0, u "copyOfRangeByte"), (0, u "([BII)[B"), (0, .methodref 14 344), (0, .nameAndType 345 346), (0, u "checkLength"), (0, u "(II)V"), (28, .class_ 376), (0, u "java/util/Arrays$ArrayList"), (68, u "$assertionsDisabled"), (269, u "MIN_ARRAY_SORT_GRAN"), (0, u "I"), (2, u "INSERTIONSORT_THRESHOLD"), (255, .class_ 976), (0, u "java/util/Arrays$ArrayItr")] 52

def k13m0 : Method := { name := "<init>", desc := "()V", sig := { parameters := [], returnType := none }, accessFlags := 2, code := none }
def k13c1 : Code := { maxStack := 4, maxLocals := 2, code := jdk_65_method_131_code, exceptionTable := #[], attributes := #[] }
def k13m1 : Method := { name := "checkLength", desc := "(II)V", sig := { parameters := [.int, .int], returnType := none }, accessFlags := 10, code := some k13c1 }
def k13c2 : Code := { maxStack := 3, maxLocals := 3, code := jdk_65_method_132_code, exceptionTable := #[], attributes := #[] }
def k13m2 : Method := { name := "copyOfRange", desc := "([BII)[B", sig := { parameters := [(.array .byte), .int, .int], returnType := some (.array .byte) }, accessFlags := 9, code := some k13c2 }
def k13c3 : Code := { maxStack := 6, maxLocals := 5, code := jdk_65_method_133_code, exceptionTable := #[], attributes := #[] }
def k13m3 : Method := { name := "copyOfRangeByte", desc := "([BII)[B", sig := { parameters := [(.array .byte), .int, .int], returnType := some (.array .byte) }, accessFlags := 10, code := some k13c3 }
/-- java/util/Arrays -/
def k13 : Class := { plain "java/util/Arrays" (some 0) with
  accessFlags := 49
  interfaces := #[]
  cf := some (fileOf pool13 14 #[.nestMembers #[975, 375, 113, 74]] #[{ accessFlags := 2, nameIndex := 5, descriptorIndex := 6, attributes := #[] }, { accessFlags := 10, nameIndex := 345, descriptorIndex := 346, attributes := #[] }, { accessFlags := 9, nameIndex := 139, descriptorIndex := 342, attributes := #[] }, { accessFlags := 10, nameIndex := 341, descriptorIndex := 342, attributes := #[] }] 49 2 #[] #[{ accessFlags := 26, nameIndex := 715, descriptorIndex := 716, attributes := #[] }, { accessFlags := 26, nameIndex := 719, descriptorIndex := 716, attributes := #[] }, { accessFlags := 4120, nameIndex := 445, descriptorIndex := 117, attributes := #[] }])
  fields := #[{ name := "MIN_ARRAY_SORT_GRAN", type := .int, accessFlags := 26, slot := 0, constantValue := 0 }, { name := "INSERTIONSORT_THRESHOLD", type := .int, accessFlags := 26, slot := 1, constantValue := 0 }, { name := "$assertionsDisabled", type := .boolean, accessFlags := 4120, slot := 2, constantValue := 0 }]
  methods := #[k13m0, k13m1, k13m2, k13m3]
  instanceTypes := #[]
  staticTypes := #[.int, .int, .boolean]
  resolved := Array.replicate 1029 none
  statics := none }

def pool14 : Array CpInfo := pool [(1, .class_ 2), (0, u "java/lang/Math"), (1, .class_ 6), (1, u "java/lang/Object"), (0, u "<init>"), (0, u "()V"), (89, .class_ 100), (1, u "java/lang/Math$RandomNumberGeneratorHolder"), (71, u "negativeZeroFloatBits"), (0, u "J"), (2, u "negativeZeroDoubleBits"), (24, u "min"), (43, u "$assertionsDisabled"), (0, u "Z"), (88, u "(II)I"), (2, u "twoToTheDoubleScaleDown"), (0, u "D"), (4, u "twoToTheDoubleScaleUp"), (9, u "E"), (3, u "PI"), (2, u "TAU"), (2, u "DEGREES_TO_RADIANS"), (0, u "RADIANS_TO_DEGREES")] 94

def k14m0 : Method := { name := "<init>", desc := "()V", sig := { parameters := [], returnType := none }, accessFlags := 2, code := none }
def k14c1 : Code := { maxStack := 2, maxLocals := 2, code := jdk_29_method_69_code, exceptionTable := #[], attributes := #[] }
def k14m1 : Method := { name := "min", desc := "(II)I", sig := { parameters := [.int, .int], returnType := some .int }, accessFlags := 9, code := some k14c1 }
/-- java/lang/Math -/
def k14 : Class := { plain "java/lang/Math" (some 0) with
  accessFlags := 49
  interfaces := #[]
  cf := some (fileOf pool14 1 #[.nestMembers #[98]] #[{ accessFlags := 2, nameIndex := 7, descriptorIndex := 8, attributes := #[] }, { accessFlags := 9, nameIndex := 201, descriptorIndex := 335, attributes := #[] }] 49 4 #[] #[{ accessFlags := 25, nameIndex := 354, descriptorIndex := 339, attributes := #[] }, { accessFlags := 25, nameIndex := 358, descriptorIndex := 339, attributes := #[] }, { accessFlags := 25, nameIndex := 361, descriptorIndex := 339, attributes := #[] }, { accessFlags := 26, nameIndex := 364, descriptorIndex := 339, attributes := #[] }, { accessFlags := 26, nameIndex := 365, descriptorIndex := 339, attributes := #[] }, { accessFlags := 26, nameIndex := 172, descriptorIndex := 173, attributes := #[] }, { accessFlags := 26, nameIndex := 176, descriptorIndex := 173, attributes := #[] }, { accessFlags := 8, nameIndex := 344, descriptorIndex := 339, attributes := #[] }, { accessFlags := 8, nameIndex := 338, descriptorIndex := 339, attributes := #[] }, { accessFlags := 4120, nameIndex := 245, descriptorIndex := 246, attributes := #[] }])
  fields := #[{ name := "E", type := .double, accessFlags := 25, slot := 0, constantValue := 0 }, { name := "PI", type := .double, accessFlags := 25, slot := 1, constantValue := 0 }, { name := "TAU", type := .double, accessFlags := 25, slot := 2, constantValue := 0 }, { name := "DEGREES_TO_RADIANS", type := .double, accessFlags := 26, slot := 3, constantValue := 0 }, { name := "RADIANS_TO_DEGREES", type := .double, accessFlags := 26, slot := 4, constantValue := 0 }, { name := "negativeZeroFloatBits", type := .long, accessFlags := 26, slot := 5, constantValue := 0 }, { name := "negativeZeroDoubleBits", type := .long, accessFlags := 26, slot := 6, constantValue := 0 }, { name := "twoToTheDoubleScaleUp", type := .double, accessFlags := 8, slot := 7, constantValue := 0 }, { name := "twoToTheDoubleScaleDown", type := .double, accessFlags := 8, slot := 8, constantValue := 0 }, { name := "$assertionsDisabled", type := .boolean, accessFlags := 4120, slot := 9, constantValue := 0 }]
  methods := #[k14m0, k14m1]
  instanceTypes := #[]
  staticTypes := #[.double, .double, .double, .double, .double, .long, .long, .double, .double, .boolean]
  resolved := Array.replicate 460 none
  statics := none }

def pool15 : Array CpInfo := pool [(3, .class_ 4), (0, u "java/lang/String"), (1, .class_ 8), (1, u "java/lang/Object"), (0, u "<init>"), (0, u "()V"), (0, .methodref 12 13), (0, .class_ 14), (0, .nameAndType 15 16), (0, u "java/lang/StringUTF16"), (0, u "newBytesLength"), (0, u "(I)I"), (3, .integer 1073741823), (23, .fieldref 12 45), (0, .nameAndType 46 47), (0, u "$assertionsDisabled"), (0, u "Z"), (0, .methodref 12 49), (0, .nameAndType 50 51), (0, u "length"), (0, u "([B)I"), (7, .fieldref 12 60), (0, .nameAndType 61 62), (0, u "HI_BYTE_SHIFT"), (0, u "I"), (0, .fieldref 12 64), (0, .nameAndType 65 62), (0, u "LO_BYTE_SHIFT"), (1, .methodref 12 68), (0, .nameAndType 69 70), (0, u "checkIndex"), (0, u "(I[B)V"), (0, .methodref 12 72), (0, .nameAndType 73 74), (0, u "getChar"), (0, u "([BI)C"), (24, u "(II[B)V"), (7, .methodref 12 108), (0, .nameAndType 109 110), (0, u "newBytesFor"), (0, u "(I)[B"), (0, .methodref 12 112), (0, .nameAndType 113 114), (0, u "putChar"), (0, u "([BII)V"), (0, .methodref 12 116), (0, .nameAndType 117 118), (0, u "compress"), (0, u "([CI[BII)I"), (0, .methodref 12 120), (0, .nameAndType 121 122), (0, u "toBytes"), (0, u "([CII)[B"), (0, .methodref 12 124), (0, .nameAndType 117 125), (0, u "([BI[BII)I"), (0, .methodref 127 128), (0, .class_ 129), (0, .nameAndType 130 131), (0, u "java/util/Arrays"), (0, u "copyOfRange"), (0, u "([BII)[B"), (41, .methodref 12 174), (0, .nameAndType 175 99), (0, u "checkBoundsOffCount"), (85, u "coderFromArrayLen"), (0, u "([BI)B"), (18, u "(III)I"), (87, .class_ 371), (1, u "java/lang/StringUTF16$LinesSpliterator"), (20, u "charAt"), (21, .methodref 3 415), (0, .nameAndType 69 416), (0, u "(II)V"), (2, .methodref 3 420), (0, .nameAndType 175 281), (9, u "MAX_LENGTH"), (155, u "putCharSB"), (40, .class_ 628), (0, u "java/lang/StringUTF16$CodePointsSpliterator"), (0, .class_ 630), (0, u "java/lang/StringUTF16$CharsSpliterator")] 4

def k15m0 : Method := { name := "<init>", desc := "()V", sig := { parameters := [], returnType := none }, accessFlags := 0, code := none }
def k15c1 : Code := { maxStack := 1, maxLocals := 1, code := jdk_52_method_2_code, exceptionTable := #[], attributes := #[] }
def k15m1 : Method := { name := "newBytesFor", desc := "(I)[B", sig := { parameters := [.int], returnType := some (.array .byte) }, accessFlags := 9, code := some k15c1 }
def k15c2 : Code := { maxStack := 4, maxLocals := 1, code := jdk_52_method_3_code, exceptionTable := #[], attributes := #[] }
def k15m2 : Method := { name := "newBytesLength", desc := "(I)I", sig := { parameters := [.int], returnType := some .int }, accessFlags := 9, code := some k15c2 }
def k15c3 : Code := { maxStack := 4, maxLocals := 3, code := jdk_52_method_4_code, exceptionTable := #[], attributes := #[] }
def k15m3 : Method := { name := "putChar", desc := "([BII)V", sig := { parameters := [(.array .byte), .int, .int], returnType := none }, accessFlags := 8, code := some k15c3 }
def k15c4 : Code := { maxStack := 3, maxLocals := 2, code := jdk_52_method_5_code, exceptionTable := #[], attributes := #[] }
def k15m4 : Method := { name := "getChar", desc := "([BI)C", sig := { parameters := [(.array .byte), .int], returnType := some .char }, accessFlags := 8, code := some k15c4 }
def k15c5 : Code := { maxStack := 2, maxLocals := 1, code := jdk_52_method_6_code, exceptionTable := #[], attributes := #[] }
def k15m5 : Method := { name := "length", desc := "([B)I", sig := { parameters := [(.array .byte)], returnType := some .int }, accessFlags := 9, code := some k15c5 }
def k15c6 : Code := { maxStack := 4, maxLocals := 5, code := jdk_52_method_14_code, exceptionTable := #[], attributes := #[] }
def k15m6 : Method := { name := "toBytes", desc := "([CII)[B", sig := { parameters := [(.array .char), .int, .int], returnType := some (.array .byte) }, accessFlags := 9, code := some k15c6 }
def k15c7 : Code := { maxStack := 2, maxLocals := 2, code := jdk_52_method_15_code, exceptionTable := #[], attributes := #[] }
def k15m7 : Method := { name := "coderFromArrayLen", desc := "([BI)B", sig := { parameters := [(.array .byte), .int], returnType := some .byte }, accessFlags := 8, code := some k15c7 }
def k15c8 : Code := { maxStack := 5, maxLocals := 6, code := jdk_52_method_16_code, exceptionTable := #[], attributes := #[] }
def k15m8 : Method := { name := "compress", desc := "([CII)[B", sig := { parameters := [(.array .char), .int, .int], returnType := some (.array .byte) }, accessFlags := 9, code := some k15c8 }
def k15c9 : Code := { maxStack := 5, maxLocals := 6, code := jdk_52_method_17_code, exceptionTable := #[], attributes := #[] }
def k15m9 : Method := { name := "compress", desc := "([BII)[B", sig := { parameters := [(.array .byte), .int, .int], returnType := some (.array .byte) }, accessFlags := 9, code := some k15c9 }
def k15c10 : Code := { maxStack := 3, maxLocals := 7, code := jdk_52_method_21_code, exceptionTable := #[], attributes := #[] }
def k15m10 : Method := { name := "compress", desc := "([CI[BII)I", sig := { parameters := [(.array .char), .int, (.array .byte), .int, .int], returnType := some .int }, accessFlags := 9, code := some k15c10 }
def k15c11 : Code := { maxStack := 3, maxLocals := 7, code := jdk_52_method_22_code, exceptionTable := #[], attributes := #[] }
def k15m11 : Method := { name := "compress", desc := "([BI[BII)I", sig := { parameters := [(.array .byte), .int, (.array .byte), .int, .int], returnType := some .int }, accessFlags := 9, code := some k15c11 }
def k15c12 : Code := { maxStack := 3, maxLocals := 3, code := jdk_52_method_71_code, exceptionTable := #[], attributes := #[] }
def k15m12 : Method := { name := "putCharSB", desc := "([BII)V", sig := { parameters := [(.array .byte), .int, .int], returnType := none }, accessFlags := 9, code := some k15c12 }
def k15c13 : Code := { maxStack := 2, maxLocals := 2, code := jdk_52_method_83_code, exceptionTable := #[], attributes := #[] }
def k15m13 : Method := { name := "charAt", desc := "([BI)C", sig := { parameters := [(.array .byte), .int], returnType := some .char }, accessFlags := 9, code := some k15c13 }
def k15c14 : Code := { maxStack := 2, maxLocals := 2, code := jdk_52_method_91_code, exceptionTable := #[], attributes := #[] }
def k15m14 : Method := { name := "checkIndex", desc := "(I[B)V", sig := { parameters := [.int, (.array .byte)], returnType := none }, accessFlags := 9, code := some k15c14 }
def k15c15 : Code := { maxStack := 3, maxLocals := 3, code := jdk_52_method_94_code, exceptionTable := #[], attributes := #[] }
def k15m15 : Method := { name := "checkBoundsOffCount", desc := "(II[B)V", sig := { parameters := [.int, .int, (.array .byte)], returnType := none }, accessFlags := 9, code := some k15c15 }
/-- java/lang/StringUTF16 -/
def k15 : Class := { plain "java/lang/StringUTF16" (some 0) with
  accessFlags := 48
  interfaces := #[]
  cf := some (fileOf pool15 12 #[.nestMembers #[627, 629, 369]] #[{ accessFlags := 0, nameIndex := 9, descriptorIndex := 10, attributes := #[] }, { accessFlags := 9, nameIndex := 109, descriptorIndex := 110, attributes := #[] }, { accessFlags := 9, nameIndex := 15, descriptorIndex := 16, attributes := #[] }, { accessFlags := 8, nameIndex := 113, descriptorIndex := 114, attributes := #[] }, { accessFlags := 8, nameIndex := 73, descriptorIndex := 74, attributes := #[] }, { accessFlags := 9, nameIndex := 50, descriptorIndex := 51, attributes := #[] }, { accessFlags := 9, nameIndex := 121, descriptorIndex := 122, attributes := #[] }, { accessFlags := 8, nameIndex := 261, descriptorIndex := 262, attributes := #[] }, { accessFlags := 9, nameIndex := 117, descriptorIndex := 122, attributes := #[] }, { accessFlags := 9, nameIndex := 117, descriptorIndex := 131, attributes := #[] }, { accessFlags := 9, nameIndex := 117, descriptorIndex := 118, attributes := #[] }, { accessFlags := 9, nameIndex := 117, descriptorIndex := 125, attributes := #[] }, { accessFlags := 9, nameIndex := 586, descriptorIndex := 114, attributes := #[] }, { accessFlags := 9, nameIndex := 392, descriptorIndex := 74, attributes := #[] }, { accessFlags := 9, nameIndex := 69, descriptorIndex := 70, attributes := #[] }, { accessFlags := 9, nameIndex := 175, descriptorIndex := 99, attributes := #[] }] 48 6 #[] #[{ accessFlags := 26, nameIndex := 61, descriptorIndex := 62, attributes := #[] }, { accessFlags := 26, nameIndex := 65, descriptorIndex := 62, attributes := #[] }, { accessFlags := 24, nameIndex := 430, descriptorIndex := 62, attributes := #[] }, { accessFlags := 4120, nameIndex := 46, descriptorIndex := 47, attributes := #[] }])
  fields := #[{ name := "HI_BYTE_SHIFT", type := .int, accessFlags := 26, slot := 0, constantValue := 0 }, { name := "LO_BYTE_SHIFT", type := .int, accessFlags := 26, slot := 1, constantValue := 0 }, { name := "MAX_LENGTH", type := .int, accessFlags := 24, slot := 2, constantValue := 0 }, { name := "$assertionsDisabled", type := .boolean, accessFlags := 4120, slot := 3, constantValue := 0 }]
  methods := #[k15m0, k15m1, k15m2, k15m3, k15m4, k15m5, k15m6, k15m7, k15m8, k15m9, k15m10, k15m11, k15m12, k15m13, k15m14, k15m15]
  instanceTypes := #[]
  staticTypes := #[.int, .int, .int, .boolean]
  resolved := Array.replicate 635 none
  statics := some 1 }

def pool16 : Array CpInfo := pool [(2, .class_ 4), (1, u "java/lang/Object"), (0, u "<init>"), (0, u "()V"), (17, .class_ 26), (1, u "jdk/internal/util/Preconditions"), (6, u "checkIndex"), (15, u "checkFromIndexSize"), (5, .class_ 56), (0, u "jdk/internal/util/Preconditions$4"), (57, .class_ 115), (0, u "jdk/internal/util/Preconditions$1"), (7, u "SIOOBE_FORMATTER"), (0, u "Ljava/util/function/BiFunction;"), (0, .class_ 126), (0, u "jdk/internal/util/Preconditions$2"), (3, u "AIOOBE_FORMATTER"), (0, .class_ 132), (0, u "jdk/internal/util/Preconditions$3"), (3, u "IOOBE_FORMATTER"), (41, u "(IILjava/util/function/BiFunction;)I"), (4, u "(IIILjava/util/function/BiFunction;)I")] 10

def k16m0 : Method := { name := "<init>", desc := "()V", sig := { parameters := [], returnType := none }, accessFlags := 1, code := none }
def k16c1 : Code := { maxStack := 3, maxLocals := 3, code := jdk_41_method_11_code, exceptionTable := #[], attributes := #[] }
def k16m1 : Method := { name := "checkIndex", desc := "(IILjava/util/function/BiFunction;)I", sig := { parameters := [.int, .int, (.object "java/util/function/BiFunction")], returnType := some .int }, accessFlags := 9, code := some k16c1 }
def k16c2 : Code := { maxStack := 4, maxLocals := 4, code := jdk_41_method_13_code, exceptionTable := #[], attributes := #[] }
def k16m2 : Method := { name := "checkFromIndexSize", desc := "(IIILjava/util/function/BiFunction;)I", sig := { parameters := [.int, .int, .int, (.object "java/util/function/BiFunction")], returnType := some .int }, accessFlags := 9, code := some k16c2 }
/-- jdk/internal/util/Preconditions -/
def k16 : Class := { plain "jdk/internal/util/Preconditions" (some 0) with
  accessFlags := 33
  interfaces := #[]
  cf := some (fileOf pool16 24 #[.nestMembers #[55, 131, 125, 114]] #[{ accessFlags := 1, nameIndex := 5, descriptorIndex := 6, attributes := #[] }, { accessFlags := 9, nameIndex := 33, descriptorIndex := 178, attributes := #[] }, { accessFlags := 9, nameIndex := 49, descriptorIndex := 183, attributes := #[] }] 33 2 #[] #[{ accessFlags := 25, nameIndex := 123, descriptorIndex := 124, attributes := #[] }, { accessFlags := 25, nameIndex := 130, descriptorIndex := 124, attributes := #[] }, { accessFlags := 25, nameIndex := 136, descriptorIndex := 124, attributes := #[] }])
  fields := #[{ name := "SIOOBE_FORMATTER", type := (.object "java/util/function/BiFunction"), accessFlags := 25, slot := 0, constantValue := 0 }, { name := "AIOOBE_FORMATTER", type := (.object "java/util/function/BiFunction"), accessFlags := 25, slot := 1, constantValue := 0 }, { name := "IOOBE_FORMATTER", type := (.object "java/util/function/BiFunction"), accessFlags := 25, slot := 2, constantValue := 0 }]
  methods := #[k16m0, k16m1, k16m2]
  instanceTypes := #[]
  staticTypes := #[(.object "java/util/function/BiFunction"), (.object "java/util/function/BiFunction"), (.object "java/util/function/BiFunction")]
  resolved := Array.replicate 194 none
  statics := some 2 }

def pool17 : Array CpInfo := pool [(1, .class_ 2), (0, u "java/lang/Character"), (18, u "value"), (0, u "C"), (19, .class_ 44), (1, u "java/lang/Object"), (3, .class_ 50), (1, u "java/lang/Character$CharacterCache"), (30, u "(C)Z"), (32, u "(I)Z"), (151, .methodref 1 267), (0, .nameAndType 268 114), (0, u "isISOControl"), (15, u "$assertionsDisabled"), (0, u "Z"), (21, .class_ 309), (1, u "java/lang/Character$UnicodeBlock"), (73, u "TYPE"), (0, u "Ljava/lang/Class;"), (0, .class_ 386), (0, u "java/io/Serializable"), (0, .class_ 388), (0, u "java/lang/Comparable"), (0, .class_ 390), (0, u "java/lang/constant/Constable"), (0, u "MIN_RADIX"), (0, u "I"), (2, u "MAX_RADIX"), (1, u "MIN_VALUE"), (1, u "MAX_VALUE"), (3, u "UNASSIGNED"), (0, u "B"), (0, u "UPPERCASE_LETTER"), (1, u "LOWERCASE_LETTER"), (0, u "TITLECASE_LETTER"), (1, u "MODIFIER_LETTER"), (1, u "OTHER_LETTER"), (1, u "NON_SPACING_MARK"), (1, u "ENCLOSING_MARK"), (1, u "COMBINING_SPACING_MARK"), (1, u "DECIMAL_DIGIT_NUMBER"), (1, u "LETTER_NUMBER"), (1, u "OTHER_NUMBER"), (1, u "SPACE_SEPARATOR"), (1, u "LINE_SEPARATOR"), (1, u "PARAGRAPH_SEPARATOR"), (1, u "CONTROL"), (1, u "FORMAT"), (1, u "PRIVATE_USE"), (1, u "SURROGATE"), (1, u "DASH_PUNCTUATION"), (1, u "START_PUNCTUATION"), (1, u "END_PUNCTUATION"), (1, u "CONNECTOR_PUNCTUATION"), (1, u "OTHER_PUNCTUATION"), (1, u "MATH_SYMBOL"), (1, u "CURRENCY_SYMBOL"), (1, u "MODIFIER_SYMBOL"), (1, u "OTHER_SYMBOL"), (1, u "INITIAL_QUOTE_PUNCTUATION"), (1, u "FINAL_QUOTE_PUNCTUATION"), (1, u "ERROR"), (1, u "DIRECTIONALITY_UNDEFINED"), (0, u "DIRECTIONALITY_LEFT_TO_RIGHT"), (0, u "DIRECTIONALITY_RIGHT_TO_LEFT"), (0, u "DIRECTIONALITY_RIGHT_TO_LEFT_ARABIC"), (0, u "DIRECTIONALITY_EUROPEAN_NUMBER"), (0, u "DIRECTIONALITY_EUROPEAN_NUMBER_SEPARATOR"), (0, u "DIRECTIONALITY_EUROPEAN_NUMBER_TERMINATOR"), (0, u "DIRECTIONALITY_ARABIC_NUMBER"), (0, u "DIRECTIONALITY_COMMON_NUMBER_SEPARATOR"), (0, u "DIRECTIONALITY_NONSPACING_MARK"), (0, u "DIRECTIONALITY_BOUNDARY_NEUTRAL"), (0, u "DIRECTIONALITY_PARAGRAPH_SEPARATOR"), (0, u "DIRECTIONALITY_SEGMENT_SEPARATOR"), (0, u "DIRECTIONALITY_WHITESPACE"), (0, u "DIRECTIONALITY_OTHER_NEUTRALS"), (0, u "DIRECTIONALITY_LEFT_TO_RIGHT_EMBEDDING"), (0, u "DIRECTIONALITY_LEFT_TO_RIGHT_OVERRIDE"), (0, u "DIRECTIONALITY_RIGHT_TO_LEFT_EMBEDDING"), (0, u "DIRECTIONALITY_RIGHT_TO_LEFT_OVERRIDE"), (1, u "DIRECTIONALITY_POP_DIRECTIONAL_FORMAT"), (0, u "DIRECTIONALITY_LEFT_TO_RIGHT_ISOLATE"), (0, u "DIRECTIONALITY_RIGHT_TO_LEFT_ISOLATE"), (0, u "DIRECTIONALITY_FIRST_STRONG_ISOLATE"), (0, u "DIRECTIONALITY_POP_DIRECTIONAL_ISOLATE"), (0, u "MIN_HIGH_SURROGATE"), (0, u "MAX_HIGH_SURROGATE"), (1, u "MIN_LOW_SURROGATE"), (0, u "MAX_LOW_SURROGATE"), (1, u "MIN_SURROGATE"), (0, u "MAX_SURROGATE"), (0, u "MIN_SUPPLEMENTARY_CODE_POINT"), (0, u "MIN_CODE_POINT"), (0, u "MAX_CODE_POINT"), (1, u "serialVersionUID"), (0, u "J"), (2, u "SIZE"), (0, u "BYTES"), (88, .class_ 596), (0, u "java/lang/Character$UnicodeScript"), (0, .class_ 598), (0, u "java/lang/Character$Subset")] 5

def k17c0 : Code := { maxStack := 1, maxLocals := 1, code := jdk_89_method_88_code, exceptionTable := #[], attributes := #[] }
def k17m0 : Method := { name := "isISOControl", desc := "(C)Z", sig := { parameters := [.char], returnType := some .boolean }, accessFlags := 9, code := some k17c0 }
def k17c1 : Code := { maxStack := 2, maxLocals := 1, code := jdk_89_method_89_code, exceptionTable := #[], attributes := #[] }
def k17m1 : Method := { name := "isISOControl", desc := "(I)Z", sig := { parameters := [.int], returnType := some .boolean }, accessFlags := 9, code := some k17c1 }
/-- java/lang/Character -/
def k17 : Class := { plain "java/lang/Character" (some 0) with
  accessFlags := 49
  interfaces := #[2, 3, 5]
  cf := some (fileOf pool17 1 #[.nestMembers #[48, 595, 307, 597]] #[{ accessFlags := 9, nameIndex := 268, descriptorIndex := 81, attributes := #[] }, { accessFlags := 9, nameIndex := 268, descriptorIndex := 114, attributes := #[] }] 49 42 #[385, 387, 389] #[{ accessFlags := 25, nameIndex := 391, descriptorIndex := 392, attributes := #[] }, { accessFlags := 25, nameIndex := 395, descriptorIndex := 392, attributes := #[] }, { accessFlags := 25, nameIndex := 397, descriptorIndex := 22, attributes := #[] }, { accessFlags := 25, nameIndex := 399, descriptorIndex := 22, attributes := #[] }, { accessFlags := 25, nameIndex := 383, descriptorIndex := 384, attributes := #[] }, { accessFlags := 25, nameIndex := 403, descriptorIndex := 404, attributes := #[] }, { accessFlags := 25, nameIndex := 405, descriptorIndex := 404, attributes := #[] }, { accessFlags := 25, nameIndex := 407, descriptorIndex := 404, attributes := #[] }, { accessFlags := 25, nameIndex := 408, descriptorIndex := 404, attributes := #[] }, { accessFlags := 25, nameIndex := 410, descriptorIndex := 404, attributes := #[] }, { accessFlags := 25, nameIndex := 412, descriptorIndex := 404, attributes := #[] }, { accessFlags := 25, nameIndex := 414, descriptorIndex := 404, attributes := #[] }, { accessFlags := 25, nameIndex := 416, descriptorIndex := 404, attributes := #[] }, { accessFlags := 25, nameIndex := 418, descriptorIndex := 404, attributes := #[] }, { accessFlags := 25, nameIndex := 420, descriptorIndex := 404, attributes := #[] }, { accessFlags := 25, nameIndex := 422, descriptorIndex := 404, attributes := #[] }, { accessFlags := 25, nameIndex := 424, descriptorIndex := 404, attributes := #[] }, { accessFlags := 25, nameIndex := 426, descriptorIndex := 404, attributes := #[] }, { accessFlags := 25, nameIndex := 428, descriptorIndex := 404, attributes := #[] }, { accessFlags := 25, nameIndex := 430, descriptorIndex := 404, attributes := #[] }, { accessFlags := 25, nameIndex := 432, descriptorIndex := 404, attributes := #[] }, { accessFlags := 25, nameIndex := 434, descriptorIndex := 404, attributes := #[] }, { accessFlags := 25, nameIndex := 436, descriptorIndex := 404, attributes := #[] }, { accessFlags := 25, nameIndex := 438, descriptorIndex := 404, attributes := #[] }, { accessFlags := 25, nameIndex := 440, descriptorIndex := 404, attributes := #[] }, { accessFlags := 25, nameIndex := 442, descriptorIndex := 404, attributes := #[] }, { accessFlags := 25, nameIndex := 444, descriptorIndex := 404, attributes := #[] }, { accessFlags := 25, nameIndex := 446, descriptorIndex := 404, attributes := #[] }, { accessFlags := 25, nameIndex := 448, descriptorIndex := 404, attributes := #[] }, { accessFlags := 25, nameIndex := 450, descriptorIndex := 404, attributes := #[] }, { accessFlags := 25, nameIndex := 452, descriptorIndex := 404, attributes := #[] }, { accessFlags := 25, nameIndex := 454, descriptorIndex := 404, attributes := #[] }, { accessFlags := 25, nameIndex := 456, descriptorIndex := 404, attributes := #[] }, { accessFlags := 25, nameIndex := 458, descriptorIndex := 404, attributes := #[] }, { accessFlags := 25, nameIndex := 460, descriptorIndex := 404, attributes := #[] }, { accessFlags := 24, nameIndex := 462, descriptorIndex := 392, attributes := #[] }, { accessFlags := 25, nameIndex := 464, descriptorIndex := 404, attributes := #[] }, { accessFlags := 25, nameIndex := 465, descriptorIndex := 404, attributes := #[] }, { accessFlags := 25, nameIndex := 466, descriptorIndex := 404, attributes := #[] }, { accessFlags := 25, nameIndex := 467, descriptorIndex := 404, attributes := #[] }, { accessFlags := 25, nameIndex := 468, descriptorIndex := 404, attributes := #[] }, { accessFlags := 25, nameIndex := 469, descriptorIndex := 404, attributes := #[] }, { accessFlags := 25, nameIndex := 470, descriptorIndex := 404, attributes := #[] }, { accessFlags := 25, nameIndex := 471, descriptorIndex := 404, attributes := #[] }, { accessFlags := 25, nameIndex := 472, descriptorIndex := 404, attributes := #[] }, { accessFlags := 25, nameIndex := 473, descriptorIndex := 404, attributes := #[] }, { accessFlags := 25, nameIndex := 474, descriptorIndex := 404, attributes := #[] }, { accessFlags := 25, nameIndex := 475, descriptorIndex := 404, attributes := #[] }, { accessFlags := 25, nameIndex := 476, descriptorIndex := 404, attributes := #[] }, { accessFlags := 25, nameIndex := 477, descriptorIndex := 404, attributes := #[] }, { accessFlags := 25, nameIndex := 478, descriptorIndex := 404, attributes := #[] }, { accessFlags := 25, nameIndex := 479, descriptorIndex := 404, attributes := #[] }, { accessFlags := 25, nameIndex := 480, descriptorIndex := 404, attributes := #[] }, { accessFlags := 25, nameIndex := 481, descriptorIndex := 404, attributes := #[] }, { accessFlags := 25, nameIndex := 482, descriptorIndex := 404, attributes := #[] }, { accessFlags := 25, nameIndex := 484, descriptorIndex := 404, attributes := #[] }, { accessFlags := 25, nameIndex := 485, descriptorIndex := 404, attributes := #[] }, { accessFlags := 25, nameIndex := 486, descriptorIndex := 404, attributes := #[] }, { accessFlags := 25, nameIndex := 487, descriptorIndex := 404, attributes := #[] }, { accessFlags := 25, nameIndex := 488, descriptorIndex := 404, attributes := #[] }, { accessFlags := 25, nameIndex := 489, descriptorIndex := 22, attributes := #[] }, { accessFlags := 25, nameIndex := 490, descriptorIndex := 22, attributes := #[] }, { accessFlags := 25, nameIndex := 492, descriptorIndex := 22, attributes := #[] }, { accessFlags := 25, nameIndex := 493, descriptorIndex := 22, attributes := #[] }, { accessFlags := 25, nameIndex := 495, descriptorIndex := 22, attributes := #[] }, { accessFlags := 25, nameIndex := 496, descriptorIndex := 22, attributes := #[] }, { accessFlags := 25, nameIndex := 497, descriptorIndex := 392, attributes := #[] }, { accessFlags := 25, nameIndex := 498, descriptorIndex := 392, attributes := #[] }, { accessFlags := 25, nameIndex := 499, descriptorIndex := 392, attributes := #[] }, { accessFlags := 18, nameIndex := 21, descriptorIndex := 22, attributes := #[] }, { accessFlags := 26, nameIndex := 501, descriptorIndex := 502, attributes := #[] }, { accessFlags := 25, nameIndex := 505, descriptorIndex := 392, attributes := #[] }, { accessFlags := 25, nameIndex := 506, descriptorIndex := 392, attributes := #[] }, { accessFlags := 4120, nameIndex := 284, descriptorIndex := 285, attributes := #[] }])
  fields := #[{ name := "MIN_RADIX", type := .int, accessFlags := 25, slot := 0, constantValue := 0 }, { name := "MAX_RADIX", type := .int, accessFlags := 25, slot := 1, constantValue := 0 }, { name := "MIN_VALUE", type := .char, accessFlags := 25, slot := 2, constantValue := 0 }, { name := "MAX_VALUE", type := .char, accessFlags := 25, slot := 3, constantValue := 0 }, { name := "TYPE", type := (.object "java/lang/Class"), accessFlags := 25, slot := 4, constantValue := 0 }, { name := "UNASSIGNED", type := .byte, accessFlags := 25, slot := 5, constantValue := 0 }, { name := "UPPERCASE_LETTER", type := .byte, accessFlags := 25, slot := 6, constantValue := 0 }, { name := "LOWERCASE_LETTER", type := .byte, accessFlags := 25, slot := 7, constantValue := 0 }, { name := "TITLECASE_LETTER", type := .byte, accessFlags := 25, slot := 8, constantValue := 0 }, { name := "MODIFIER_LETTER", type := .byte, accessFlags := 25, slot := 9, constantValue := 0 }, { name := "OTHER_LETTER", type := .byte, accessFlags := 25, slot := 10, constantValue := 0 }, { name := "NON_SPACING_MARK", type := .byte, accessFlags := 25, slot := 11, constantValue := 0 }, { name := "ENCLOSING_MARK", type := .byte, accessFlags := 25, slot := 12, constantValue := 0 }, { name := "COMBINING_SPACING_MARK", type := .byte, accessFlags := 25, slot := 13, constantValue := 0 }, { name := "DECIMAL_DIGIT_NUMBER", type := .byte, accessFlags := 25, slot := 14, constantValue := 0 }, { name := "LETTER_NUMBER", type := .byte, accessFlags := 25, slot := 15, constantValue := 0 }, { name := "OTHER_NUMBER", type := .byte, accessFlags := 25, slot := 16, constantValue := 0 }, { name := "SPACE_SEPARATOR", type := .byte, accessFlags := 25, slot := 17, constantValue := 0 }, { name := "LINE_SEPARATOR", type := .byte, accessFlags := 25, slot := 18, constantValue := 0 }, { name := "PARAGRAPH_SEPARATOR", type := .byte, accessFlags := 25, slot := 19, constantValue := 0 }, { name := "CONTROL", type := .byte, accessFlags := 25, slot := 20, constantValue := 0 }, { name := "FORMAT", type := .byte, accessFlags := 25, slot := 21, constantValue := 0 }, { name := "PRIVATE_USE", type := .byte, accessFlags := 25, slot := 22, constantValue := 0 }, { name := "SURROGATE", type := .byte, accessFlags := 25, slot := 23, constantValue := 0 }, { name := "DASH_PUNCTUATION", type := .byte, accessFlags := 25, slot := 24, constantValue := 0 }, { name := "START_PUNCTUATION", type := .byte, accessFlags := 25, slot := 25, constantValue := 0 }, { name := "END_PUNCTUATION", type := .byte, accessFlags := 25, slot := 26, constantValue := 0 }, { name := "CONNECTOR_PUNCTUATION", type := .byte, accessFlags := 25, slot := 27, constantValue := 0 }, { name := "OTHER_PUNCTUATION", type := .byte, accessFlags := 25, slot := 28, constantValue := 0 }, { name := "MATH_SYMBOL", type := .byte, accessFlags := 25, slot := 29, constantValue := 0 }, { name := "CURRENCY_SYMBOL", type := .byte, accessFlags := 25, slot := 30, constantValue := 0 }, { name := "MODIFIER_SYMBOL", type := .byte, accessFlags := 25, slot := 31, constantValue := 0 }, { name := "OTHER_SYMBOL", type := .byte, accessFlags := 25, slot := 32, constantValue := 0 }, { name := "INITIAL_QUOTE_PUNCTUATION", type := .byte, accessFlags := 25, slot := 33, constantValue := 0 }, { name := "FINAL_QUOTE_PUNCTUATION", type := .byte, accessFlags := 25, slot := 34, constantValue := 0 }, { name := "ERROR", type := .int, accessFlags := 24, slot := 35, constantValue := 0 }, { name := "DIRECTIONALITY_UNDEFINED", type := .byte, accessFlags := 25, slot := 36, constantValue := 0 }, { name := "DIRECTIONALITY_LEFT_TO_RIGHT", type := .byte, accessFlags := 25, slot := 37, constantValue := 0 }, { name := "DIRECTIONALITY_RIGHT_TO_LEFT", type := .byte, accessFlags := 25, slot := 38, constantValue := 0 }, { name := "DIRECTIONALITY_RIGHT_TO_LEFT_ARABIC", type := .byte, accessFlags := 25, slot := 39, constantValue := 0 }, { name := "DIRECTIONALITY_EUROPEAN_NUMBER", type := .byte, accessFlags := 25, slot := 40, constantValue := 0 }, { name := "DIRECTIONALITY_EUROPEAN_NUMBER_SEPARATOR", type := .byte, accessFlags := 25, slot := 41, constantValue := 0 }, { name := "DIRECTIONALITY_EUROPEAN_NUMBER_TERMINATOR", type := .byte, accessFlags := 25, slot := 42, constantValue := 0 }, { name := "DIRECTIONALITY_ARABIC_NUMBER", type := .byte, accessFlags := 25, slot := 43, constantValue := 0 }, { name := "DIRECTIONALITY_COMMON_NUMBER_SEPARATOR", type := .byte, accessFlags := 25, slot := 44, constantValue := 0 }, { name := "DIRECTIONALITY_NONSPACING_MARK", type := .byte, accessFlags := 25, slot := 45, constantValue := 0 }, { name := "DIRECTIONALITY_BOUNDARY_NEUTRAL", type := .byte, accessFlags := 25, slot := 46, constantValue := 0 }, { name := "DIRECTIONALITY_PARAGRAPH_SEPARATOR", type := .byte, accessFlags := 25, slot := 47, constantValue := 0 }, { name := "DIRECTIONALITY_SEGMENT_SEPARATOR", type := .byte, accessFlags := 25, slot := 48, constantValue := 0 }, { name := "DIRECTIONALITY_WHITESPACE", type := .byte, accessFlags := 25, slot := 49, constantValue := 0 }, { name := "DIRECTIONALITY_OTHER_NEUTRALS", type := .byte, accessFlags := 25, slot := 50, constantValue := 0 }, { name := "DIRECTIONALITY_LEFT_TO_RIGHT_EMBEDDING", type := .byte, accessFlags := 25, slot := 51, constantValue := 0 }, { name := "DIRECTIONALITY_LEFT_TO_RIGHT_OVERRIDE", type := .byte, accessFlags := 25, slot := 52, constantValue := 0 }, { name := "DIRECTIONALITY_RIGHT_TO_LEFT_EMBEDDING", type := .byte, accessFlags := 25, slot := 53, constantValue := 0 }, { name := "DIRECTIONALITY_RIGHT_TO_LEFT_OVERRIDE", type := .byte, accessFlags := 25, slot := 54, constantValue := 0 }, { name := "DIRECTIONALITY_POP_DIRECTIONAL_FORMAT", type := .byte, accessFlags := 25, slot := 55, constantValue := 0 }, { name := "DIRECTIONALITY_LEFT_TO_RIGHT_ISOLATE", type := .byte, accessFlags := 25, slot := 56, constantValue := 0 }, { name := "DIRECTIONALITY_RIGHT_TO_LEFT_ISOLATE", type := .byte, accessFlags := 25, slot := 57, constantValue := 0 }, { name := "DIRECTIONALITY_FIRST_STRONG_ISOLATE", type := .byte, accessFlags := 25, slot := 58, constantValue := 0 }, { name := "DIRECTIONALITY_POP_DIRECTIONAL_ISOLATE", type := .byte, accessFlags := 25, slot := 59, constantValue := 0 }, { name := "MIN_HIGH_SURROGATE", type := .char, accessFlags := 25, slot := 60, constantValue := 0 }, { name := "MAX_HIGH_SURROGATE", type := .char, accessFlags := 25, slot := 61, constantValue := 0 }, { name := "MIN_LOW_SURROGATE", type := .char, accessFlags := 25, slot := 62, constantValue := 0 }, { name := "MAX_LOW_SURROGATE", type := .char, accessFlags := 25, slot := 63, constantValue := 0 }, { name := "MIN_SURROGATE", type := .char, accessFlags := 25, slot := 64, constantValue := 0 }, { name := "MAX_SURROGATE", type := .char, accessFlags := 25, slot := 65, constantValue := 0 }, { name := "MIN_SUPPLEMENTARY_CODE_POINT", type := .int, accessFlags := 25, slot := 66, constantValue := 0 }, { name := "MIN_CODE_POINT", type := .int, accessFlags := 25, slot := 67, constantValue := 0 }, { name := "MAX_CODE_POINT", type := .int, accessFlags := 25, slot := 68, constantValue := 0 }, { name := "value", type := .char, accessFlags := 18, slot := 0, constantValue := 0 }, { name := "serialVersionUID", type := .long, accessFlags := 26, slot := 69, constantValue := 0 }, { name := "SIZE", type := .int, accessFlags := 25, slot := 70, constantValue := 0 }, { name := "BYTES", type := .int, accessFlags := 25, slot := 71, constantValue := 0 }, { name := "$assertionsDisabled", type := .boolean, accessFlags := 4120, slot := 72, constantValue := 0 }]
  methods := #[k17m0, k17m1]
  instanceTypes := #[.char]
  staticTypes := #[.int, .int, .char, .char, (.object "java/lang/Class"), .byte, .byte, .byte, .byte, .byte, .byte, .byte, .byte, .byte, .byte, .byte, .byte, .byte, .byte, .byte, .byte, .byte, .byte, .byte, .byte, .byte, .byte, .byte, .byte, .byte, .byte, .byte, .byte, .byte, .byte, .int, .byte, .byte, .byte, .byte, .byte, .byte, .byte, .byte, .byte, .byte, .byte, .byte, .byte, .byte, .byte, .byte, .byte, .byte, .byte, .byte, .byte, .byte, .byte, .byte, .char, .char, .char, .char, .char, .char, .int, .int, .int, .long, .int, .int, .boolean]
  resolved := Array.replicate 604 none
  statics := none }

def pool18 : Array CpInfo := pool [(1, .class_ 2), (0, u "java/lang/String"), (1, .class_ 6), (1, u "java/lang/Object"), (0, u "<init>"), (0, u "()V"), (0, .methodref 1 10), (0, .nameAndType 11 12), (0, u "checkIndex"), (0, u "(II)V"), (1, .class_ 16), (1, u "java/lang/StringLatin1"), (36, u "([BI)C"), (36, u "canEncode"), (14, u "(C)Z"), (15, u "$assertionsDisabled"), (0, u "Z"), (98, .class_ 223), (1, u "java/lang/StringLatin1$LinesSpliterator"), (28, u "charAt"), (137, .class_ 391), (0, u "java/lang/StringLatin1$CharsSpliterator")] 3

def k18m0 : Method := { name := "<init>", desc := "()V", sig := { parameters := [], returnType := none }, accessFlags := 0, code := none }
def k18c1 : Code := { maxStack := 2, maxLocals := 2, code := jdk_43_method_2_code, exceptionTable := #[], attributes := #[] }
def k18m1 : Method := { name := "charAt", desc := "([BI)C", sig := { parameters := [(.array .byte), .int], returnType := some .char }, accessFlags := 9, code := some k18c1 }
def k18c2 : Code := { maxStack := 2, maxLocals := 1, code := jdk_43_method_3_code, exceptionTable := #[], attributes := #[] }
def k18m2 : Method := { name := "canEncode", desc := "(C)Z", sig := { parameters := [.char], returnType := some .boolean }, accessFlags := 9, code := some k18c2 }
/-- java/lang/StringLatin1 -/
def k18 : Class := { plain "java/lang/StringLatin1" (some 0) with
  accessFlags := 48
  interfaces := #[]
  cf := some (fileOf pool18 14 #[.nestMembers #[390, 221]] #[{ accessFlags := 0, nameIndex := 7, descriptorIndex := 8, attributes := #[] }, { accessFlags := 9, nameIndex := 252, descriptorIndex := 53, attributes := #[] }, { accessFlags := 9, nameIndex := 90, descriptorIndex := 105, attributes := #[] }] 48 4 #[] #[{ accessFlags := 4120, nameIndex := 121, descriptorIndex := 122, attributes := #[] }])
  fields := #[{ name := "$assertionsDisabled", type := .boolean, accessFlags := 4120, slot := 0, constantValue := 0 }]
  methods := #[k18m0, k18m1, k18m2]
  instanceTypes := #[]
  staticTypes := #[.boolean]
  resolved := Array.replicate 395 none
  statics := none }

def pool19 : Array CpInfo := pool [(9, u "<init>"), (6, .class_ 18), (1, u "java/lang/Object"), (0, u "()V"), (1, .class_ 23), (1, u "jdk/internal/util/ArraysSupport"), (0, u "LOG2_ARRAY_LONG_INDEX_SCALE"), (0, u "I"), (2, u "U"), (0, u "Ljdk/internal/misc/Unsafe;"), (8, u "BIG_ENDIAN"), (0, u "Z"), (8, u "LOG2_BYTE_BIT_SIZE"), (4, u "LOG2_ARRAY_INT_INDEX_SCALE"), (54, u "JLA"), (0, u "Ljdk/internal/access/JavaLangAccess;"), (11, u "LOG2_ARRAY_BOOLEAN_INDEX_SCALE"), (9, u "LOG2_ARRAY_BYTE_INDEX_SCALE"), (5, u "LOG2_ARRAY_CHAR_INDEX_SCALE"), (5, u "LOG2_ARRAY_SHORT_INDEX_SCALE"), (18, u "LOG2_ARRAY_FLOAT_INDEX_SCALE"), (24, u "LOG2_ARRAY_DOUBLE_INDEX_SCALE"), (89, u "T_BOOLEAN"), (2, u "T_CHAR"), (1, u "T_FLOAT"), (1, u "T_DOUBLE"), (1, u "T_BYTE"), (1, u "T_SHORT"), (1, u "T_INT"), (1, u "T_LONG"), (1, u "SOFT_MAX_ARRAY_LENGTH")] 83

def k19m0 : Method := { name := "<init>", desc := "()V", sig := { parameters := [], returnType := none }, accessFlags := 2, code := none }
/-- jdk/internal/util/ArraysSupport -/
def k19 : Class := { plain "jdk/internal/util/ArraysSupport" (some 0) with
  accessFlags := 33
  interfaces := #[]
  cf := some (fileOf pool19 21 #[] #[{ accessFlags := 2, nameIndex := 9, descriptorIndex := 19, attributes := #[] }] 33 16 #[] #[{ accessFlags := 24, nameIndex := 28, descriptorIndex := 29, attributes := #[] }, { accessFlags := 26, nameIndex := 38, descriptorIndex := 39, attributes := #[] }, { accessFlags := 25, nameIndex := 121, descriptorIndex := 25, attributes := #[] }, { accessFlags := 25, nameIndex := 131, descriptorIndex := 25, attributes := #[] }, { accessFlags := 25, nameIndex := 137, descriptorIndex := 25, attributes := #[] }, { accessFlags := 25, nameIndex := 143, descriptorIndex := 25, attributes := #[] }, { accessFlags := 25, nameIndex := 53, descriptorIndex := 25, attributes := #[] }, { accessFlags := 25, nameIndex := 24, descriptorIndex := 25, attributes := #[] }, { accessFlags := 25, nameIndex := 162, descriptorIndex := 25, attributes := #[] }, { accessFlags := 25, nameIndex := 187, descriptorIndex := 25, attributes := #[] }, { accessFlags := 26, nameIndex := 48, descriptorIndex := 25, attributes := #[] }, { accessFlags := 25, nameIndex := 277, descriptorIndex := 25, attributes := #[] }, { accessFlags := 25, nameIndex := 280, descriptorIndex := 25, attributes := #[] }, { accessFlags := 25, nameIndex := 282, descriptorIndex := 25, attributes := #[] }, { accessFlags := 25, nameIndex := 284, descriptorIndex := 25, attributes := #[] }, { accessFlags := 25, nameIndex := 286, descriptorIndex := 25, attributes := #[] }, { accessFlags := 25, nameIndex := 288, descriptorIndex := 25, attributes := #[] }, { accessFlags := 25, nameIndex := 290, descriptorIndex := 25, attributes := #[] }, { accessFlags := 25, nameIndex := 292, descriptorIndex := 25, attributes := #[] }, { accessFlags := 26, nameIndex := 108, descriptorIndex := 109, attributes := #[] }, { accessFlags := 25, nameIndex := 294, descriptorIndex := 25, attributes := #[] }])
  fields := #[{ name := "U", type := (.object "jdk/internal/misc/Unsafe"), accessFlags := 24, slot := 0, constantValue := 0 }, { name := "BIG_ENDIAN", type := .boolean, accessFlags := 26, slot := 1, constantValue := 0 }, { name := "LOG2_ARRAY_BOOLEAN_INDEX_SCALE", type := .int, accessFlags := 25, slot := 2, constantValue := 0 }, { name := "LOG2_ARRAY_BYTE_INDEX_SCALE", type := .int, accessFlags := 25, slot := 3, constantValue := 0 }, { name := "LOG2_ARRAY_CHAR_INDEX_SCALE", type := .int, accessFlags := 25, slot := 4, constantValue := 0 }, { name := "LOG2_ARRAY_SHORT_INDEX_SCALE", type := .int, accessFlags := 25, slot := 5, constantValue := 0 }, { name := "LOG2_ARRAY_INT_INDEX_SCALE", type := .int, accessFlags := 25, slot := 6, constantValue := 0 }, { name := "LOG2_ARRAY_LONG_INDEX_SCALE", type := .int, accessFlags := 25, slot := 7, constantValue := 0 }, { name := "LOG2_ARRAY_FLOAT_INDEX_SCALE", type := .int, accessFlags := 25, slot := 8, constantValue := 0 }, { name := "LOG2_ARRAY_DOUBLE_INDEX_SCALE", type := .int, accessFlags := 25, slot := 9, constantValue := 0 }, { name := "LOG2_BYTE_BIT_SIZE", type := .int, accessFlags := 26, slot := 10, constantValue := 0 }, { name := "T_BOOLEAN", type := .int, accessFlags := 25, slot := 11, constantValue := 0 }, { name := "T_CHAR", type := .int, accessFlags := 25, slot := 12, constantValue := 0 }, { name := "T_FLOAT", type := .int, accessFlags := 25, slot := 13, constantValue := 0 }, { name := "T_DOUBLE", type := .int, accessFlags := 25, slot := 14, constantValue := 0 }, { name := "T_BYTE", type := .int, accessFlags := 25, slot := 15, constantValue := 0 }, { name := "T_SHORT", type := .int, accessFlags := 25, slot := 16, constantValue := 0 }, { name := "T_INT", type := .int, accessFlags := 25, slot := 17, constantValue := 0 }, { name := "T_LONG", type := .int, accessFlags := 25, slot := 18, constantValue := 0 }, { name := "JLA", type := (.object "jdk/internal/access/JavaLangAccess"), accessFlags := 26, slot := 19, constantValue := 0 }, { name := "SOFT_MAX_ARRAY_LENGTH", type := .int, accessFlags := 25, slot := 20, constantValue := 0 }]
  methods := #[k19m0]
  instanceTypes := #[]
  staticTypes := #[(.object "jdk/internal/misc/Unsafe"), .boolean, .int, .int, .int, .int, .int, .int, .int, .int, .int, .int, .int, .int, .int, .int, .int, .int, .int, (.object "jdk/internal/access/JavaLangAccess"), .int]
  resolved := Array.replicate 378 none
  statics := none }

def pool20 : Array CpInfo := pool [(1, u "java/lang/Cloneable"), (0, .class_ 1), (0, u "java/lang/Object"), (0, .class_ 3)] 3

/-- java/lang/Cloneable -/
def k20 : Class := { plain "java/lang/Cloneable" (some 0) with
  accessFlags := 1537
  interfaces := #[]
  cf := some (fileOf pool20 2 #[] #[] 1537 4 #[] #[])
  fields := #[]
  methods := #[]
  instanceTypes := #[]
  staticTypes := #[]
  resolved := Array.replicate 8 none
  statics := none }

/-- the primitive byte -/
def k21 : Class := { plain "byte" none with kind := .primitive 'B', accessFlags := 0x411 }
/-- [B -/
def k22 : Class := { plain "[B" (some 0) with kind := .array 21 .byte, interfaces := #[20, 2], accessFlags := 1041 }

/-- the primitive char -/
def k23 : Class := { plain "char" none with kind := .primitive 'C', accessFlags := 0x411 }
/-- [C -/
def k24 : Class := { plain "[C" (some 0) with kind := .array 23 .char, interfaces := #[20, 2], accessFlags := 1041 }

/-- the primitive int -/
def k25 : Class := { plain "int" none with kind := .primitive 'I', accessFlags := 0x411 }
/-- [I -/
def k26 : Class := { plain "[I" (some 0) with kind := .array 25 .int, interfaces := #[20, 2], accessFlags := 1041 }

def heap : Heap := #[{ cls := 7, slots := #[.long 0, .int 1, .null, .int 0, .null, .int 0, .int 0], vm := .statics 7 },
  { cls := 15, slots := #[.int 0, .int 8, .int 0, .int 1], vm := .statics 15 },
  { cls := 16, slots := #[.null, .null, .null], vm := .statics 16 }]
def classes : Array Class := #[k0, k1, k2, k3, k4, k5, k6, k7, k8, k9, k10, k11, k12, k13, k14, k15, k16, k17, k18, k19, k20, k21, k22, k23, k24, k25, k26]
def interned : List (Array UInt16 × Addr) := []
def slotsUsed : Nat := 14
def theMethod : MethodId := ⟨1, 1⟩
def args0 : Array Value := #[.int 2, .int 65, .int 300, .int 3, .int 4]
def aboutOver (below : List Frame) : State where
  vm := { classes := classes, interned := interned.toArray }
  heap := heap
  slotsUsed := slotsUsed
  threads := #[{ frames := .invoking theMethod args0 :: below }]
def below0 : List Frame := [.native { method := ⟨0, 0⟩, args := #[] }]
def about1 : State := aboutOver below0
def p0 : Program := .bare "" "" ""
def e0 : Env := launch0.env 0 0 0
theorem w_frames : about1.frames = Frame.invoking theMethod args0 :: below0 := rfl
set_option maxRecDepth 65536 in
theorem w_args : argsFit about1.vm theMethod args0 = true := by decide +kernel
set_option maxRecDepth 65536 in
theorem w_heap : heapFits about1 = true := by decide +kernel
set_option maxRecDepth 65536 in
theorem w_runnable : about1.curStatus? = some .runnable := by decide +kernel
set_option maxRecDepth 65536 in
theorem w_alone : about1.alone = true := by decide +kernel
set_option maxRecDepth 65536 in
theorem w_named : about1.methodNamed? x = some theMethod := by decide +kernel
set_option maxRecDepth 65536 in
theorem w_hears : about1.hears theMethod below0 = true := by decide +kernel
set_option maxRecDepth 65536 in
theorem w_ripe : about1.ripe theMethod args0 below0 = true := by decide +kernel
theorem w_running : about1.status = .running := rfl
set_option maxRecDepth 65536 in
theorem w_room : about1.hasRoom e0.platform room_1 = true :=
  launch0.hasRoom_least _ room_1 (by decide +kernel) (by decide +kernel) (by decide +kernel) (by decide +kernel) (by decide +kernel) (by decide +kernel)
theorem allAtoms_all (ts : List Jvm.Cond) (a : Array Jvm.Value) (st : Jvm.State) : (allAtoms ts).before a st = ts.all (fun c => c.before a st) := by
  induction ts with
  | nil => rfl
  | cons c t ih =>
    show (Jvm.Cond.and c (allAtoms t)).before a st = _
    rw [Jvm.Cond.before_and, ih, List.all_cons]
def words1 : List Jvm.Cond := Jvm.Cond.code x code maxLocals ret :: tables_1
/-- a 'code' word, met by the world's own term for the bytes: nothing is compared byte by byte -/
theorem code_word {y : MethodName} {bytes : ByteArray} {mx : Nat} {rt : Option FieldType} {a : Array Value} {s : State} {m : MethodId} {meth : Method} {c : Code} (h1 : s.methodNamed? y = some m) (h2 : s.vm.method? m = some meth) (h3 : meth.code = some c) (h4 : c.code = bytes)
    (h5 : (c.maxLocals == mx && c.exceptionTable.isEmpty && decide (c.maxStack ≤ mostOperands) && decide (meth.sig.returnType = rt) && !meth.locks && decide (parseMethodDescriptor y.desc = some meth.sig)) = true) : (Jvm.Cond.code y bytes mx rt).before a s = true := by
  simp only [Bool.and_eq_true, beq_iff_eq, Bool.not_eq_true', decide_eq_true_eq] at h5
  obtain ⟨⟨⟨⟨⟨g1, g2⟩, g3⟩, g4⟩, g5⟩, g6⟩ := h5
  simp [Cond.before, Cond.holds, Cond.value, h1, h2, h3, h4, g1, g2, g3, g4, g5, g6]
def isCode : Jvm.Cond → Bool
  | .code _ _ _ _ => true
  | _ => false
theorem all_split {L : List Jvm.Cond} {P : Jvm.Cond → Bool} (h1 : L.all (fun c => isCode c || P c) = true) (h2 : ∀ c ∈ L.filter isCode, P c = true) : L.all P = true := by
  refine List.all_eq_true.mpr fun c hc => ?_
  have h := List.all_eq_true.mp h1 c hc
  rcases Bool.eq_false_or_eq_true (isCode c) with hi | hi
  · exact h2 c (List.mem_filter.mpr ⟨hc, hi⟩)
  · simpa [hi] using h
set_option maxRecDepth 65536 in
theorem w_c0 : (Jvm.Cond.code x code maxLocals ret).before args0 about1 = true := code_word (m := ⟨1, 1⟩) (meth := k1m1) (c := k1c1) (by decide +kernel) rfl rfl rfl (by decide +kernel)
set_option maxRecDepth 65536 in
theorem w_c1 : (Jvm.Cond.code ({ cls := "com/example/tidemark/tidemark/core/ReportLinesPrintablePinLaw", name := "make", desc := "(ICCCC)[C" } : Jvm.MethodName) method_3_code (5 : Nat) (Option.some (Jvm.ClassFile.FieldType.array Jvm.ClassFile.FieldType.char))).before args0 about1 = true := code_word (m := ⟨1, 2⟩) (meth := k1m2) (c := k1c2) (by decide +kernel) rfl rfl rfl (by decide +kernel)
set_option maxRecDepth 65536 in
theorem w_c2 : (Jvm.Cond.code ({ cls := "java/lang/String", name := "<init>", desc := "([C)V" } : Jvm.MethodName) jdk_42_method_3_code (2 : Nat) (Option.none : Option Jvm.ClassFile.FieldType)).before args0 about1 = true := code_word (m := ⟨7, 1⟩) (meth := k7m1) (c := k7c1) (by decide +kernel) rfl rfl rfl (by decide +kernel)
set_option maxRecDepth 65536 in
theorem w_c3 : (Jvm.Cond.code ({ cls := "java/lang/String", name := "<init>", desc := "([CIILjava/lang/Void;)V" } : Jvm.MethodName) jdk_42_method_149_code (6 : Nat) (Option.none : Option Jvm.ClassFile.FieldType)).before args0 about1 = true := code_word (m := ⟨7, 6⟩) (meth := k7m6) (c := k7c6) (by decide +kernel) rfl rfl rfl (by decide +kernel)
set_option maxRecDepth 65536 in
theorem w_c4 : (Jvm.Cond.code ({ cls := "java/lang/Object", name := "<init>", desc := "()V" } : Jvm.MethodName) object_method_1_code (1 : Nat) (Option.none : Option Jvm.ClassFile.FieldType)).before args0 about1 = true := code_word (m := ⟨0, 0⟩) (meth := k0m0) (c := k0c0) (by decide +kernel) rfl rfl rfl (by decide +kernel)
set_option maxRecDepth 65536 in
theorem w_c5 : (Jvm.Cond.code ({ cls := "com/example/tidemark/tidemark/core/ReportLines", name := "printable", desc := "(Ljava/lang/String;)Ljava/lang/String;" } : Jvm.MethodName) prog_48_method_2_code (3 : Nat) (Option.some (Jvm.ClassFile.FieldType.object "java/lang/String"))).before args0 about1 = true := code_word (m := ⟨8, 1⟩) (meth := k8m1) (c := k8c1) (by decide +kernel) rfl rfl rfl (by decide +kernel)
set_option maxRecDepth 65536 in
theorem w_c6 : (Jvm.Cond.code ({ cls := "java/lang/StringBuilder", name := "<init>", desc := "(Ljava/lang/String;)V" } : Jvm.MethodName) jdk_67_method_3_code (2 : Nat) (Option.none : Option Jvm.ClassFile.FieldType)).before args0 about1 = true := code_word (m := ⟨11, 1⟩) (meth := k11m1) (c := k11c1) (by decide +kernel) rfl rfl rfl (by decide +kernel)
set_option maxRecDepth 65536 in
theorem w_c7 : (Jvm.Cond.code ({ cls := "java/lang/AbstractStringBuilder", name := "<init>", desc := "(Ljava/lang/String;)V" } : Jvm.MethodName) jdk_68_method_3_code (5 : Nat) (Option.none : Option Jvm.ClassFile.FieldType)).before args0 about1 = true := code_word (m := ⟨10, 1⟩) (meth := k10m1) (c := k10c1) (by decide +kernel) rfl rfl rfl (by decide +kernel)
set_option maxRecDepth 65536 in
theorem w_c8 : (Jvm.Cond.code ({ cls := "java/lang/String", name := "length", desc := "()I" } : Jvm.MethodName) jdk_42_method_54_code (1 : Nat) (Option.some Jvm.ClassFile.FieldType.int)).before args0 about1 = true := code_word (m := ⟨7, 3⟩) (meth := k7m3) (c := k7c3) (by decide +kernel) rfl rfl rfl (by decide +kernel)
set_option maxRecDepth 65536 in
theorem w_c9 : (Jvm.Cond.code ({ cls := "java/lang/String", name := "coder", desc := "()B" } : Jvm.MethodName) jdk_42_method_152_code (1 : Nat) (Option.some Jvm.ClassFile.FieldType.byte)).before args0 about1 = true := code_word (m := ⟨7, 8⟩) (meth := k7m8) (c := k7c8) (by decide +kernel) rfl rfl rfl (by decide +kernel)
set_option maxRecDepth 65536 in
theorem w_c10 : (Jvm.Cond.code ({ cls := "java/lang/StringBuilder", name := "append", desc := "(Ljava/lang/String;)Ljava/lang/AbstractStringBuilder;" } : Jvm.MethodName) jdk_67_method_80_code (2 : Nat) (Option.some (Jvm.ClassFile.FieldType.object "java/lang/AbstractStringBuilder"))).before args0 about1 = true := code_word (m := ⟨11, 4⟩) (meth := k11m4) (c := k11c4) (by decide +kernel) rfl rfl rfl (by decide +kernel)
set_option maxRecDepth 65536 in
theorem w_c11 : (Jvm.Cond.code ({ cls := "java/lang/StringBuilder", name := "append", desc := "(Ljava/lang/String;)Ljava/lang/StringBuilder;" } : Jvm.MethodName) jdk_67_method_7_code (2 : Nat) (Option.some (Jvm.ClassFile.FieldType.object "java/lang/StringBuilder"))).before args0 about1 = true := code_word (m := ⟨11, 2⟩) (meth := k11m2) (c := k11c2) (by decide +kernel) rfl rfl rfl (by decide +kernel)
set_option maxRecDepth 65536 in
theorem w_c12 : (Jvm.Cond.code ({ cls := "java/lang/AbstractStringBuilder", name := "append", desc := "(Ljava/lang/String;)Ljava/lang/AbstractStringBuilder;" } : Jvm.MethodName) jdk_68_method_22_code (3 : Nat) (Option.some (Jvm.ClassFile.FieldType.object "java/lang/AbstractStringBuilder"))).before args0 about1 = true := code_word (m := ⟨10, 6⟩) (meth := k10m6) (c := k10c6) (by decide +kernel) rfl rfl rfl (by decide +kernel)
set_option maxRecDepth 65536 in
theorem w_c13 : (Jvm.Cond.code ({ cls := "java/lang/AbstractStringBuilder", name := "ensureCapacityInternal", desc := "(I)V" } : Jvm.MethodName) jdk_68_method_9_code (3 : Nat) (Option.none : Option Jvm.ClassFile.FieldType)).before args0 about1 = true := code_word (m := ⟨10, 3⟩) (meth := k10m3) (c := k10c3) (by decide +kernel) rfl rfl rfl (by decide +kernel)
set_option maxRecDepth 65536 in
theorem w_c14 : (Jvm.Cond.code ({ cls := "java/lang/AbstractStringBuilder", name := "putStringAt", desc := "(ILjava/lang/String;)V" } : Jvm.MethodName) jdk_68_method_73_code (3 : Nat) (Option.none : Option Jvm.ClassFile.FieldType)).before args0 about1 = true := code_word (m := ⟨10, 10⟩) (meth := k10m10) (c := k10c10) (by decide +kernel) rfl rfl rfl (by decide +kernel)
set_option maxRecDepth 65536 in
theorem w_c15 : (Jvm.Cond.code ({ cls := "java/lang/AbstractStringBuilder", name := "inflateIfNeededFor", desc := "(Ljava/lang/String;)V" } : Jvm.MethodName) jdk_68_method_71_code (2 : Nat) (Option.none : Option Jvm.ClassFile.FieldType)).before args0 about1 = true := code_word (m := ⟨10, 9⟩) (meth := k10m9) (c := k10c9) (by decide +kernel) rfl rfl rfl (by decide +kernel)
set_option maxRecDepth 65536 in
theorem w_c16 : (Jvm.Cond.code ({ cls := "java/lang/String", name := "getBytes", desc := "([BIB)V" } : Jvm.MethodName) jdk_42_method_147_code (4 : Nat) (Option.none : Option Jvm.ClassFile.FieldType)).before args0 about1 = true := code_word (m := ⟨7, 5⟩) (meth := k7m5) (c := k7c5) (by decide +kernel) rfl rfl rfl (by decide +kernel)
set_option maxRecDepth 65536 in
theorem w_c17 : (Jvm.Cond.code ({ cls := "java/lang/StringBuilder", name := "length", desc := "()I" } : Jvm.MethodName) jdk_67_method_93_code (1 : Nat) (Option.some Jvm.ClassFile.FieldType.int)).before args0 about1 = true := code_word (m := ⟨11, 7⟩) (meth := k11m7) (c := k11c7) (by decide +kernel) rfl rfl rfl (by decide +kernel)
set_option maxRecDepth 65536 in
theorem w_c18 : (Jvm.Cond.code ({ cls := "java/lang/AbstractStringBuilder", name := "length", desc := "()I" } : Jvm.MethodName) jdk_68_method_6_code (1 : Nat) (Option.some Jvm.ClassFile.FieldType.int)).before args0 about1 = true := code_word (m := ⟨10, 2⟩) (meth := k10m2) (c := k10c2) (by decide +kernel) rfl rfl rfl (by decide +kernel)
set_option maxRecDepth 65536 in
theorem w_c19 : (Jvm.Cond.code ({ cls := "java/lang/StringBuilder", name := "toString", desc := "()Ljava/lang/String;" } : Jvm.MethodName) jdk_67_method_42_code (1 : Nat) (Option.some (Jvm.ClassFile.FieldType.object "java/lang/String"))).before args0 about1 = true := code_word (m := ⟨11, 3⟩) (meth := k11m3) (c := k11c3) (by decide +kernel) rfl rfl rfl (by decide +kernel)
set_option maxRecDepth 65536 in
theorem w_c20 : (Jvm.Cond.code ({ cls := "java/lang/String", name := "<init>", desc := "(Ljava/lang/StringBuilder;)V" } : Jvm.MethodName) jdk_42_method_53_code (2 : Nat) (Option.none : Option Jvm.ClassFile.FieldType)).before args0 about1 = true := code_word (m := ⟨7, 2⟩) (meth := k7m2) (c := k7c2) (by decide +kernel) rfl rfl rfl (by decide +kernel)
set_option maxRecDepth 65536 in
theorem w_c21 : (Jvm.Cond.code ({ cls := "java/lang/String", name := "<init>", desc := "(Ljava/lang/AbstractStringBuilder;Ljava/lang/Void;)V" } : Jvm.MethodName) jdk_42_method_150_code (5 : Nat) (Option.none : Option Jvm.ClassFile.FieldType)).before args0 about1 = true := code_word (m := ⟨7, 7⟩) (meth := k7m7) (c := k7c7) (by decide +kernel) rfl rfl rfl (by decide +kernel)
set_option maxRecDepth 65536 in
theorem w_c22 : (Jvm.Cond.code ({ cls := "java/lang/AbstractStringBuilder", name := "getValue", desc := "()[B" } : Jvm.MethodName) jdk_68_method_64_code (1 : Nat) (Option.some (Jvm.ClassFile.FieldType.array Jvm.ClassFile.FieldType.byte))).before args0 about1 = true := code_word (m := ⟨10, 7⟩) (meth := k10m7) (c := k10c7) (by decide +kernel) rfl rfl rfl (by decide +kernel)
set_option maxRecDepth 65536 in
theorem w_c23 : (Jvm.Cond.code ({ cls := "java/lang/AbstractStringBuilder", name := "isLatin1", desc := "()Z" } : Jvm.MethodName) jdk_68_method_68_code (1 : Nat) (Option.some Jvm.ClassFile.FieldType.boolean)).before args0 about1 = true := code_word (m := ⟨10, 8⟩) (meth := k10m8) (c := k10c8) (by decide +kernel) rfl rfl rfl (by decide +kernel)
set_option maxRecDepth 65536 in
theorem w_c24 : (Jvm.Cond.code ({ cls := "java/util/Arrays", name := "copyOfRange", desc := "([BII)[B" } : Jvm.MethodName) jdk_65_method_132_code (3 : Nat) (Option.some (Jvm.ClassFile.FieldType.array Jvm.ClassFile.FieldType.byte))).before args0 about1 = true := code_word (m := ⟨13, 2⟩) (meth := k13m2) (c := k13c2) (by decide +kernel) rfl rfl rfl (by decide +kernel)
set_option maxRecDepth 65536 in
theorem w_c25 : (Jvm.Cond.code ({ cls := "java/util/Arrays", name := "copyOfRangeByte", desc := "([BII)[B" } : Jvm.MethodName) jdk_65_method_133_code (5 : Nat) (Option.some (Jvm.ClassFile.FieldType.array Jvm.ClassFile.FieldType.byte))).before args0 about1 = true := code_word (m := ⟨13, 3⟩) (meth := k13m3) (c := k13c3) (by decide +kernel) rfl rfl rfl (by decide +kernel)
set_option maxRecDepth 65536 in
theorem w_c26 : (Jvm.Cond.code ({ cls := "java/util/Arrays", name := "checkLength", desc := "(II)V" } : Jvm.MethodName) jdk_65_method_131_code (2 : Nat) (Option.none : Option Jvm.ClassFile.FieldType)).before args0 about1 = true := code_word (m := ⟨13, 1⟩) (meth := k13m1) (c := k13c1) (by decide +kernel) rfl rfl rfl (by decide +kernel)
set_option maxRecDepth 65536 in
theorem w_c27 : (Jvm.Cond.code ({ cls := "java/lang/Math", name := "min", desc := "(II)I" } : Jvm.MethodName) jdk_29_method_69_code (2 : Nat) (Option.some Jvm.ClassFile.FieldType.int)).before args0 about1 = true := code_word (m := ⟨14, 1⟩) (meth := k14m1) (c := k14c1) (by decide +kernel) rfl rfl rfl (by decide +kernel)
set_option maxRecDepth 65536 in
theorem w_c28 : (Jvm.Cond.code ({ cls := "com/example/tidemark/tidemark/core/ReportLinesPrintablePinLaw", name := "at", desc := "(Ljava/lang/String;IIC)Z" } : Jvm.MethodName) method_5_code (4 : Nat) (Option.some Jvm.ClassFile.FieldType.boolean)).before args0 about1 = true := code_word (m := ⟨1, 4⟩) (meth := k1m4) (c := k1c4) (by decide +kernel) rfl rfl rfl (by decide +kernel)
set_option maxRecDepth 65536 in
theorem w_c29 : (Jvm.Cond.code ({ cls := "java/lang/StringUTF16", name := "compress", desc := "([CII)[B" } : Jvm.MethodName) jdk_52_method_16_code (6 : Nat) (Option.some (Jvm.ClassFile.FieldType.array Jvm.ClassFile.FieldType.byte))).before args0 about1 = true := code_word (m := ⟨15, 8⟩) (meth := k15m8) (c := k15c8) (by decide +kernel) rfl rfl rfl (by decide +kernel)
set_option maxRecDepth 65536 in
theorem w_c30 : (Jvm.Cond.code ({ cls := "java/lang/StringUTF16", name := "compress", desc := "([CI[BII)I" } : Jvm.MethodName) jdk_52_method_21_code (7 : Nat) (Option.some Jvm.ClassFile.FieldType.int)).before args0 about1 = true := code_word (m := ⟨15, 10⟩) (meth := k15m10) (c := k15c10) (by decide +kernel) rfl rfl rfl (by decide +kernel)
set_option maxRecDepth 65536 in
theorem w_c31 : (Jvm.Cond.code ({ cls := "java/lang/StringUTF16", name := "coderFromArrayLen", desc := "([BI)B" } : Jvm.MethodName) jdk_52_method_15_code (2 : Nat) (Option.some Jvm.ClassFile.FieldType.byte)).before args0 about1 = true := code_word (m := ⟨15, 7⟩) (meth := k15m7) (c := k15c7) (by decide +kernel) rfl rfl rfl (by decide +kernel)
set_option maxRecDepth 65536 in
theorem w_c32 : (Jvm.Cond.code ({ cls := "java/lang/StringBuilder", name := "charAt", desc := "(I)C" } : Jvm.MethodName) jdk_67_method_88_code (2 : Nat) (Option.some Jvm.ClassFile.FieldType.char)).before args0 about1 = true := code_word (m := ⟨11, 6⟩) (meth := k11m6) (c := k11c6) (by decide +kernel) rfl rfl rfl (by decide +kernel)
set_option maxRecDepth 65536 in
theorem w_c33 : (Jvm.Cond.code ({ cls := "java/lang/AbstractStringBuilder", name := "charAt", desc := "(I)C" } : Jvm.MethodName) jdk_68_method_14_code (5 : Nat) (Option.some Jvm.ClassFile.FieldType.char)).before args0 about1 = true := code_word (m := ⟨10, 4⟩) (meth := k10m4) (c := k10c4) (by decide +kernel) rfl rfl rfl (by decide +kernel)
set_option maxRecDepth 65536 in
theorem w_c34 : (Jvm.Cond.code ({ cls := "java/lang/String", name := "checkIndex", desc := "(II)V" } : Jvm.MethodName) jdk_42_method_155_code (2 : Nat) (Option.none : Option Jvm.ClassFile.FieldType)).before args0 about1 = true := code_word (m := ⟨7, 10⟩) (meth := k7m10) (c := k7c10) (by decide +kernel) rfl rfl rfl (by decide +kernel)
set_option maxRecDepth 65536 in
theorem w_c35 : (Jvm.Cond.code ({ cls := "jdk/internal/util/Preconditions", name := "checkIndex", desc := "(IILjava/util/function/BiFunction;)I" } : Jvm.MethodName) jdk_41_method_11_code (3 : Nat) (Option.some Jvm.ClassFile.FieldType.int)).before args0 about1 = true := code_word (m := ⟨16, 1⟩) (meth := k16m1) (c := k16c1) (by decide +kernel) rfl rfl rfl (by decide +kernel)
set_option maxRecDepth 65536 in
theorem w_c36 : (Jvm.Cond.code ({ cls := "java/lang/Character", name := "isISOControl", desc := "(C)Z" } : Jvm.MethodName) jdk_89_method_88_code (1 : Nat) (Option.some Jvm.ClassFile.FieldType.boolean)).before args0 about1 = true := code_word (m := ⟨17, 0⟩) (meth := k17m0) (c := k17c0) (by decide +kernel) rfl rfl rfl (by decide +kernel)
set_option maxRecDepth 65536 in
theorem w_c37 : (Jvm.Cond.code ({ cls := "java/lang/Character", name := "isISOControl", desc := "(I)Z" } : Jvm.MethodName) jdk_89_method_89_code (1 : Nat) (Option.some Jvm.ClassFile.FieldType.boolean)).before args0 about1 = true := code_word (m := ⟨17, 1⟩) (meth := k17m1) (c := k17c1) (by decide +kernel) rfl rfl rfl (by decide +kernel)
set_option maxRecDepth 65536 in
theorem w_c38 : (Jvm.Cond.code ({ cls := "java/lang/StringBuilder", name := "setCharAt", desc := "(IC)V" } : Jvm.MethodName) jdk_67_method_82_code (3 : Nat) (Option.none : Option Jvm.ClassFile.FieldType)).before args0 about1 = true := code_word (m := ⟨11, 5⟩) (meth := k11m5) (c := k11c5) (by decide +kernel) rfl rfl rfl (by decide +kernel)
set_option maxRecDepth 65536 in
theorem w_c39 : (Jvm.Cond.code ({ cls := "java/lang/AbstractStringBuilder", name := "setCharAt", desc := "(IC)V" } : Jvm.MethodName) jdk_68_method_20_code (3 : Nat) (Option.none : Option Jvm.ClassFile.FieldType)).before args0 about1 = true := code_word (m := ⟨10, 5⟩) (meth := k10m5) (c := k10c5) (by decide +kernel) rfl rfl rfl (by decide +kernel)
set_option maxRecDepth 65536 in
theorem w_c40 : (Jvm.Cond.code ({ cls := "java/lang/StringLatin1", name := "canEncode", desc := "(C)Z" } : Jvm.MethodName) jdk_43_method_3_code (1 : Nat) (Option.some Jvm.ClassFile.FieldType.boolean)).before args0 about1 = true := code_word (m := ⟨18, 2⟩) (meth := k18m2) (c := k18c2) (by decide +kernel) rfl rfl rfl (by decide +kernel)
set_option maxRecDepth 65536 in
theorem w_c41 : (Jvm.Cond.code ({ cls := "java/lang/String", name := "charAt", desc := "(I)C" } : Jvm.MethodName) jdk_42_method_56_code (2 : Nat) (Option.some Jvm.ClassFile.FieldType.char)).before args0 about1 = true := code_word (m := ⟨7, 4⟩) (meth := k7m4) (c := k7c4) (by decide +kernel) rfl rfl rfl (by decide +kernel)
set_option maxRecDepth 65536 in
theorem w_c42 : (Jvm.Cond.code ({ cls := "java/lang/String", name := "isLatin1", desc := "()Z" } : Jvm.MethodName) jdk_42_method_154_code (1 : Nat) (Option.some Jvm.ClassFile.FieldType.boolean)).before args0 about1 = true := code_word (m := ⟨7, 9⟩) (meth := k7m9) (c := k7c9) (by decide +kernel) rfl rfl rfl (by decide +kernel)
set_option maxRecDepth 65536 in
theorem w_c43 : (Jvm.Cond.code ({ cls := "java/lang/StringLatin1", name := "charAt", desc := "([BI)C" } : Jvm.MethodName) jdk_43_method_2_code (2 : Nat) (Option.some Jvm.ClassFile.FieldType.char)).before args0 about1 = true := code_word (m := ⟨18, 1⟩) (meth := k18m1) (c := k18c1) (by decide +kernel) rfl rfl rfl (by decide +kernel)
set_option maxRecDepth 65536 in
theorem w_c44 : (Jvm.Cond.code ({ cls := "com/example/tidemark/tidemark/core/ReportLinesPrintablePinLaw", name := "expect", desc := "(C)C" } : Jvm.MethodName) method_4_code (1 : Nat) (Option.some Jvm.ClassFile.FieldType.char)).before args0 about1 = true := code_word (m := ⟨1, 3⟩) (meth := k1m3) (c := k1c3) (by decide +kernel) rfl rfl rfl (by decide +kernel)
set_option maxRecDepth 65536 in
theorem w_c45 : (Jvm.Cond.code ({ cls := "java/lang/StringUTF16", name := "toBytes", desc := "([CII)[B" } : Jvm.MethodName) jdk_52_method_14_code (5 : Nat) (Option.some (Jvm.ClassFile.FieldType.array Jvm.ClassFile.FieldType.byte))).before args0 about1 = true := code_word (m := ⟨15, 6⟩) (meth := k15m6) (c := k15c6) (by decide +kernel) rfl rfl rfl (by decide +kernel)
set_option maxRecDepth 65536 in
theorem w_c46 : (Jvm.Cond.code ({ cls := "java/lang/StringUTF16", name := "newBytesFor", desc := "(I)[B" } : Jvm.MethodName) jdk_52_method_2_code (1 : Nat) (Option.some (Jvm.ClassFile.FieldType.array Jvm.ClassFile.FieldType.byte))).before args0 about1 = true := code_word (m := ⟨15, 1⟩) (meth := k15m1) (c := k15c1) (by decide +kernel) rfl rfl rfl (by decide +kernel)
set_option maxRecDepth 65536 in
theorem w_c47 : (Jvm.Cond.code ({ cls := "java/lang/StringUTF16", name := "newBytesLength", desc := "(I)I" } : Jvm.MethodName) jdk_52_method_3_code (1 : Nat) (Option.some Jvm.ClassFile.FieldType.int)).before args0 about1 = true := code_word (m := ⟨15, 2⟩) (meth := k15m2) (c := k15c2) (by decide +kernel) rfl rfl rfl (by decide +kernel)
set_option maxRecDepth 65536 in
theorem w_c48 : (Jvm.Cond.code ({ cls := "java/lang/StringUTF16", name := "putChar", desc := "([BII)V" } : Jvm.MethodName) jdk_52_method_4_code (3 : Nat) (Option.none : Option Jvm.ClassFile.FieldType)).before args0 about1 = true := code_word (m := ⟨15, 3⟩) (meth := k15m3) (c := k15c3) (by decide +kernel) rfl rfl rfl (by decide +kernel)
set_option maxRecDepth 65536 in
theorem w_c49 : (Jvm.Cond.code ({ cls := "java/lang/StringUTF16", name := "getChar", desc := "([BI)C" } : Jvm.MethodName) jdk_52_method_5_code (2 : Nat) (Option.some Jvm.ClassFile.FieldType.char)).before args0 about1 = true := code_word (m := ⟨15, 4⟩) (meth := k15m4) (c := k15c4) (by decide +kernel) rfl rfl rfl (by decide +kernel)
set_option maxRecDepth 65536 in
theorem w_c50 : (Jvm.Cond.code ({ cls := "java/lang/StringUTF16", name := "charAt", desc := "([BI)C" } : Jvm.MethodName) jdk_52_method_83_code (2 : Nat) (Option.some Jvm.ClassFile.FieldType.char)).before args0 about1 = true := code_word (m := ⟨15, 13⟩) (meth := k15m13) (c := k15c13) (by decide +kernel) rfl rfl rfl (by decide +kernel)
set_option maxRecDepth 65536 in
theorem w_c51 : (Jvm.Cond.code ({ cls := "java/lang/StringUTF16", name := "checkIndex", desc := "(I[B)V" } : Jvm.MethodName) jdk_52_method_91_code (2 : Nat) (Option.none : Option Jvm.ClassFile.FieldType)).before args0 about1 = true := code_word (m := ⟨15, 14⟩) (meth := k15m14) (c := k15c14) (by decide +kernel) rfl rfl rfl (by decide +kernel)
set_option maxRecDepth 65536 in
theorem w_c52 : (Jvm.Cond.code ({ cls := "java/lang/StringUTF16", name := "length", desc := "([B)I" } : Jvm.MethodName) jdk_52_method_6_code (1 : Nat) (Option.some Jvm.ClassFile.FieldType.int)).before args0 about1 = true := code_word (m := ⟨15, 5⟩) (meth := k15m5) (c := k15c5) (by decide +kernel) rfl rfl rfl (by decide +kernel)
set_option maxRecDepth 65536 in
theorem w_c53 : (Jvm.Cond.code ({ cls := "java/lang/StringUTF16", name := "putCharSB", desc := "([BII)V" } : Jvm.MethodName) jdk_52_method_71_code (3 : Nat) (Option.none : Option Jvm.ClassFile.FieldType)).before args0 about1 = true := code_word (m := ⟨15, 12⟩) (meth := k15m12) (c := k15c12) (by decide +kernel) rfl rfl rfl (by decide +kernel)
set_option maxRecDepth 65536 in
theorem w_c54 : (Jvm.Cond.code ({ cls := "java/lang/StringUTF16", name := "compress", desc := "([BII)[B" } : Jvm.MethodName) jdk_52_method_17_code (6 : Nat) (Option.some (Jvm.ClassFile.FieldType.array Jvm.ClassFile.FieldType.byte))).before args0 about1 = true := code_word (m := ⟨15, 9⟩) (meth := k15m9) (c := k15c9) (by decide +kernel) rfl rfl rfl (by decide +kernel)
set_option maxRecDepth 65536 in
theorem w_c55 : (Jvm.Cond.code ({ cls := "java/lang/StringUTF16", name := "compress", desc := "([BI[BII)I" } : Jvm.MethodName) jdk_52_method_22_code (7 : Nat) (Option.some Jvm.ClassFile.FieldType.int)).before args0 about1 = true := code_word (m := ⟨15, 11⟩) (meth := k15m11) (c := k15c11) (by decide +kernel) rfl rfl rfl (by decide +kernel)
set_option maxRecDepth 65536 in
theorem w_c56 : (Jvm.Cond.code ({ cls := "java/lang/StringUTF16", name := "checkBoundsOffCount", desc := "(II[B)V" } : Jvm.MethodName) jdk_52_method_94_code (3 : Nat) (Option.none : Option Jvm.ClassFile.FieldType)).before args0 about1 = true := code_word (m := ⟨15, 15⟩) (meth := k15m15) (c := k15c15) (by decide +kernel) rfl rfl rfl (by decide +kernel)
set_option maxRecDepth 65536 in
theorem w_c57 : (Jvm.Cond.code ({ cls := "java/lang/String", name := "checkBoundsOffCount", desc := "(III)I" } : Jvm.MethodName) jdk_42_method_157_code (3 : Nat) (Option.some Jvm.ClassFile.FieldType.int)).before args0 about1 = true := code_word (m := ⟨7, 11⟩) (meth := k7m11) (c := k7c11) (by decide +kernel) rfl rfl rfl (by decide +kernel)
set_option maxRecDepth 65536 in
theorem w_c58 : (Jvm.Cond.code ({ cls := "jdk/internal/util/Preconditions", name := "checkFromIndexSize", desc := "(IIILjava/util/function/BiFunction;)I" } : Jvm.MethodName) jdk_41_method_13_code (4 : Nat) (Option.some Jvm.ClassFile.FieldType.int)).before args0 about1 = true := code_word (m := ⟨16, 2⟩) (meth := k16m2) (c := k16c2) (by decide +kernel) rfl rfl rfl (by decide +kernel)
def codes1 : List Jvm.Cond := [Jvm.Cond.code x code maxLocals ret, Jvm.Cond.code ({ cls := "com/example/tidemark/tidemark/core/ReportLinesPrintablePinLaw", name := "make", desc := "(ICCCC)[C" } : Jvm.MethodName) method_3_code (5 : Nat) (Option.some (Jvm.ClassFile.FieldType.array Jvm.ClassFile.FieldType.char)), Jvm.Cond.code ({ cls := "java/lang/String", name := "<init>", desc := "([C)V" } : Jvm.MethodName) jdk_42_method_3_code (2 : Nat) (Option.none : Option Jvm.ClassFile.FieldType), Jvm.Cond.code ({ cls := "java/lang/String", name := "<init>", desc := "([CIILjava/lang/Void;)V" } : Jvm.MethodName) jdk_42_method_149_code (6 : Nat) (Option.none : Option Jvm.ClassFile.FieldType), Jvm.Cond.code ({ cls := "java/lang/Object", name := "<init>", desc := "()V" } : Jvm.MethodName) object_method_1_code (1 : Nat) (Option.none : Option Jvm.ClassFile.FieldType), Jvm.Cond.code ({ cls := "com/example/tidemark/tidemark/core/ReportLines", name := "printable", desc := "(Ljava/lang/String;)Ljava/lang/String;" } : Jvm.MethodName) prog_48_method_2_code (3 : Nat) (Option.some (Jvm.ClassFile.FieldType.object "java/lang/String")), Jvm.Cond.code ({ cls := "java/lang/StringBuilder", name := "<init>", desc := "(Ljava/lang/String;)V" } : Jvm.MethodName) jdk_67_method_3_code (2 : Nat) (Option.none : Option Jvm.ClassFile.FieldType), Jvm.Cond.code ({ cls := "java/lang/AbstractStringBuilder", name := "<init>", desc := "(Ljava/lang/String;)V" } : Jvm.MethodName) jdk_68_method_3_code (5 : Nat) (Option.none : Option Jvm.ClassFile.FieldType), Jvm.Cond.code ({ cls := "java/lang/String", name := "length", desc := "()I" } : Jvm.MethodName) jdk_42_method_54_code (1 : Nat) (Option.some Jvm.ClassFile.FieldType.int), Jvm.Cond.code ({ cls := "java/lang/String", name := "coder", desc := "()B" } : Jvm.MethodName) jdk_42_method_152_code (1 : Nat) (Option.some Jvm.ClassFile.FieldType.byte), Jvm.Cond.code ({ cls := "java/lang/StringBuilder", name := "append", desc := "(Ljava/lang/String;)Ljava/lang/AbstractStringBuilder;" } : Jvm.MethodName) jdk_67_method_80_code (2 : Nat) (Option.some (Jvm.ClassFile.FieldType.object "java/lang/AbstractStringBuilder")), Jvm.Cond.code ({ cls := "java/lang/StringBuilder", name := "append", desc := "(Ljava/lang/String;)Ljava/lang/StringBuilder;" } : Jvm.MethodName) jdk_67_method_7_code (2 : Nat) (Option.some (Jvm.ClassFile.FieldType.object "java/lang/StringBuilder")), Jvm.Cond.code ({ cls := "java/lang/AbstractStringBuilder", name := "append", desc := "(Ljava/lang/String;)Ljava/lang/AbstractStringBuilder;" } : Jvm.MethodName) jdk_68_method_22_code (3 : Nat) (Option.some (Jvm.ClassFile.FieldType.object "java/lang/AbstractStringBuilder")), Jvm.Cond.code ({ cls := "java/lang/AbstractStringBuilder", name := "ensureCapacityInternal", desc := "(I)V" } : Jvm.MethodName) jdk_68_method_9_code (3 : Nat) (Option.none : Option Jvm.ClassFile.FieldType), Jvm.Cond.code ({ cls := "java/lang/AbstractStringBuilder", name := "putStringAt", desc := "(ILjava/lang/String;)V" } : Jvm.MethodName) jdk_68_method_73_code (3 : Nat) (Option.none : Option Jvm.ClassFile.FieldType), Jvm.Cond.code ({ cls := "java/lang/AbstractStringBuilder", name := "inflateIfNeededFor", desc := "(Ljava/lang/String;)V" } : Jvm.MethodName) jdk_68_method_71_code (2 : Nat) (Option.none : Option Jvm.ClassFile.FieldType), Jvm.Cond.code ({ cls := "java/lang/String", name := "getBytes", desc := "([BIB)V" } : Jvm.MethodName) jdk_42_method_147_code (4 : Nat) (Option.none : Option Jvm.ClassFile.FieldType), Jvm.Cond.code ({ cls := "java/lang/StringBuilder", name := "length", desc := "()I" } : Jvm.MethodName) jdk_67_method_93_code (1 : Nat) (Option.some Jvm.ClassFile.FieldType.int), Jvm.Cond.code ({ cls := "java/lang/AbstractStringBuilder", name := "length", desc := "()I" } : Jvm.MethodName) jdk_68_method_6_code (1 : Nat) (Option.some Jvm.ClassFile.FieldType.int), Jvm.Cond.code ({ cls := "java/lang/StringBuilder", name := "toString", desc := "()Ljava/lang/String;" } : Jvm.MethodName) jdk_67_method_42_code (1 : Nat) (Option.some (Jvm.ClassFile.FieldType.object "java/lang/String")), Jvm.Cond.code ({ cls := "java/lang/String", name := "<init>", desc := "(Ljava/lang/StringBuilder;)V" } : Jvm.MethodName) jdk_42_method_53_code (2 : Nat) (Option.none : Option Jvm.ClassFile.FieldType), Jvm.Cond.code ({ cls := "java/lang/String", name := "<init>", desc := "(Ljava/lang/AbstractStringBuilder;Ljava/lang/Void;)V" } : Jvm.MethodName) jdk_42_method_150_code (5 : Nat) (Option.none : Option Jvm.ClassFile.FieldType), Jvm.Cond.code ({ cls := "java/lang/AbstractStringBuilder", name := "getValue", desc := "()[B" } : Jvm.MethodName) jdk_68_method_64_code (1 : Nat) (Option.some (Jvm.ClassFile.FieldType.array Jvm.ClassFile.FieldType.byte)), Jvm.Cond.code ({ cls := "java/lang/AbstractStringBuilder", name := "isLatin1", desc := "()Z" } : Jvm.MethodName) jdk_68_method_68_code (1 : Nat) (Option.some Jvm.ClassFile.FieldType.boolean), Jvm.Cond.code ({ cls := "java/util/Arrays", name := "copyOfRange", desc := "([BII)[B" } : Jvm.MethodName) jdk_65_method_132_code (3 : Nat) (Option.some (Jvm.ClassFile.FieldType.array Jvm.ClassFile.FieldType.byte)), Jvm.Cond.code ({ cls := "java/util/Arrays", name := "copyOfRangeByte", desc := "([BII)[B" } : Jvm.MethodName) jdk_65_method_133_code (5 : Nat) (Option.some (Jvm.ClassFile.FieldType.array Jvm.ClassFile.FieldType.byte)), Jvm.Cond.code ({ cls := "java/util/Arrays", name := "checkLength", desc := "(II)V" } : Jvm.MethodName) jdk_65_method_131_code (2 : Nat) (Option.none : Option Jvm.ClassFile.FieldType), Jvm.Cond.code ({ cls := "java/lang/Math", name := "min", desc := "(II)I" } : Jvm.MethodName) jdk_29_method_69_code (2 : Nat) (Option.some Jvm.ClassFile.FieldType.int), Jvm.Cond.code ({ cls := "com/example/tidemark/tidemark/core/ReportLinesPrintablePinLaw", name := "at", desc := "(Ljava/lang/String;IIC)Z" } : Jvm.MethodName) method_5_code (4 : Nat) (Option.some Jvm.ClassFile.FieldType.boolean), Jvm.Cond.code ({ cls := "java/lang/StringUTF16", name := "compress", desc := "([CII)[B" } : Jvm.MethodName) jdk_52_method_16_code (6 : Nat) (Option.some (Jvm.ClassFile.FieldType.array Jvm.ClassFile.FieldType.byte)), Jvm.Cond.code ({ cls := "java/lang/StringUTF16", name := "compress", desc := "([CI[BII)I" } : Jvm.MethodName) jdk_52_method_21_code (7 : Nat) (Option.some Jvm.ClassFile.FieldType.int), Jvm.Cond.code ({ cls := "java/lang/StringUTF16", name := "coderFromArrayLen", desc := "([BI)B" } : Jvm.MethodName) jdk_52_method_15_code (2 : Nat) (Option.some Jvm.ClassFile.FieldType.byte), Jvm.Cond.code ({ cls := "java/lang/StringBuilder", name := "charAt", desc := "(I)C" } : Jvm.MethodName) jdk_67_method_88_code (2 : Nat) (Option.some Jvm.ClassFile.FieldType.char), Jvm.Cond.code ({ cls := "java/lang/AbstractStringBuilder", name := "charAt", desc := "(I)C" } : Jvm.MethodName) jdk_68_method_14_code (5 : Nat) (Option.some Jvm.ClassFile.FieldType.char), Jvm.Cond.code ({ cls := "java/lang/String", name := "checkIndex", desc := "(II)V" } : Jvm.MethodName) jdk_42_method_155_code (2 : Nat) (Option.none : Option Jvm.ClassFile.FieldType), Jvm.Cond.code ({ cls := "jdk/internal/util/Preconditions", name := "checkIndex", desc := "(IILjava/util/function/BiFunction;)I" } : Jvm.MethodName) jdk_41_method_11_code (3 : Nat) (Option.some Jvm.ClassFile.FieldType.int), Jvm.Cond.code ({ cls := "java/lang/Character", name := "isISOControl", desc := "(C)Z" } : Jvm.MethodName) jdk_89_method_88_code (1 : Nat) (Option.some Jvm.ClassFile.FieldType.boolean), Jvm.Cond.code ({ cls := "java/lang/Character", name := "isISOControl", desc := "(I)Z" } : Jvm.MethodName) jdk_89_method_89_code (1 : Nat) (Option.some Jvm.ClassFile.FieldType.boolean), Jvm.Cond.code ({ cls := "java/lang/StringBuilder", name := "setCharAt", desc := "(IC)V" } : Jvm.MethodName) jdk_67_method_82_code (3 : Nat) (Option.none : Option Jvm.ClassFile.FieldType), Jvm.Cond.code ({ cls := "java/lang/AbstractStringBuilder", name := "setCharAt", desc := "(IC)V" } : Jvm.MethodName) jdk_68_method_20_code (3 : Nat) (Option.none : Option Jvm.ClassFile.FieldType), Jvm.Cond.code ({ cls := "java/lang/StringLatin1", name := "canEncode", desc := "(C)Z" } : Jvm.MethodName) jdk_43_method_3_code (1 : Nat) (Option.some Jvm.ClassFile.FieldType.boolean), Jvm.Cond.code ({ cls := "java/lang/String", name := "charAt", desc := "(I)C" } : Jvm.MethodName) jdk_42_method_56_code (2 : Nat) (Option.some Jvm.ClassFile.FieldType.char), Jvm.Cond.code ({ cls := "java/lang/String", name := "isLatin1", desc := "()Z" } : Jvm.MethodName) jdk_42_method_154_code (1 : Nat) (Option.some Jvm.ClassFile.FieldType.boolean), Jvm.Cond.code ({ cls := "java/lang/StringLatin1", name := "charAt", desc := "([BI)C" } : Jvm.MethodName) jdk_43_method_2_code (2 : Nat) (Option.some Jvm.ClassFile.FieldType.char), Jvm.Cond.code ({ cls := "com/example/tidemark/tidemark/core/ReportLinesPrintablePinLaw", name := "expect", desc := "(C)C" } : Jvm.MethodName) method_4_code (1 : Nat) (Option.some Jvm.ClassFile.FieldType.char), Jvm.Cond.code ({ cls := "java/lang/StringUTF16", name := "toBytes", desc := "([CII)[B" } : Jvm.MethodName) jdk_52_method_14_code (5 : Nat) (Option.some (Jvm.ClassFile.FieldType.array Jvm.ClassFile.FieldType.byte)), Jvm.Cond.code ({ cls := "java/lang/StringUTF16", name := "newBytesFor", desc := "(I)[B" } : Jvm.MethodName) jdk_52_method_2_code (1 : Nat) (Option.some (Jvm.ClassFile.FieldType.array Jvm.ClassFile.FieldType.byte)), Jvm.Cond.code ({ cls := "java/lang/StringUTF16", name := "newBytesLength", desc := "(I)I" } : Jvm.MethodName) jdk_52_method_3_code (1 : Nat) (Option.some Jvm.ClassFile.FieldType.int), Jvm.Cond.code ({ cls := "java/lang/StringUTF16", name := "putChar", desc := "([BII)V" } : Jvm.MethodName) jdk_52_method_4_code (3 : Nat) (Option.none : Option Jvm.ClassFile.FieldType), Jvm.Cond.code ({ cls := "java/lang/StringUTF16", name := "getChar", desc := "([BI)C" } : Jvm.MethodName) jdk_52_method_5_code (2 : Nat) (Option.some Jvm.ClassFile.FieldType.char), Jvm.Cond.code ({ cls := "java/lang/StringUTF16", name := "charAt", desc := "([BI)C" } : Jvm.MethodName) jdk_52_method_83_code (2 : Nat) (Option.some Jvm.ClassFile.FieldType.char), Jvm.Cond.code ({ cls := "java/lang/StringUTF16", name := "checkIndex", desc := "(I[B)V" } : Jvm.MethodName) jdk_52_method_91_code (2 : Nat) (Option.none : Option Jvm.ClassFile.FieldType), Jvm.Cond.code ({ cls := "java/lang/StringUTF16", name := "length", desc := "([B)I" } : Jvm.MethodName) jdk_52_method_6_code (1 : Nat) (Option.some Jvm.ClassFile.FieldType.int), Jvm.Cond.code ({ cls := "java/lang/StringUTF16", name := "putCharSB", desc := "([BII)V" } : Jvm.MethodName) jdk_52_method_71_code (3 : Nat) (Option.none : Option Jvm.ClassFile.FieldType), Jvm.Cond.code ({ cls := "java/lang/StringUTF16", name := "compress", desc := "([BII)[B" } : Jvm.MethodName) jdk_52_method_17_code (6 : Nat) (Option.some (Jvm.ClassFile.FieldType.array Jvm.ClassFile.FieldType.byte)), Jvm.Cond.code ({ cls := "java/lang/StringUTF16", name := "compress", desc := "([BI[BII)I" } : Jvm.MethodName) jdk_52_method_22_code (7 : Nat) (Option.some Jvm.ClassFile.FieldType.int), Jvm.Cond.code ({ cls := "java/lang/StringUTF16", name := "checkBoundsOffCount", desc := "(II[B)V" } : Jvm.MethodName) jdk_52_method_94_code (3 : Nat) (Option.none : Option Jvm.ClassFile.FieldType), Jvm.Cond.code ({ cls := "java/lang/String", name := "checkBoundsOffCount", desc := "(III)I" } : Jvm.MethodName) jdk_42_method_157_code (3 : Nat) (Option.some Jvm.ClassFile.FieldType.int), Jvm.Cond.code ({ cls := "jdk/internal/util/Preconditions", name := "checkFromIndexSize", desc := "(IIILjava/util/function/BiFunction;)I" } : Jvm.MethodName) jdk_41_method_13_code (4 : Nat) (Option.some Jvm.ClassFile.FieldType.int)]
set_option maxRecDepth 65536 in
theorem codes_eq : words1.filter isCode = codes1 := rfl
theorem w_codes : ∀ c ∈ words1.filter isCode, c.before args0 about1 = true := by
  rw [codes_eq]
  intro c hc
  simp only [codes1, List.mem_cons, List.not_mem_nil, or_false] at hc
  rcases hc with rfl | rfl | rfl | rfl | rfl | rfl | rfl | rfl | rfl | rfl | rfl | rfl | rfl | rfl | rfl | rfl | rfl | rfl | rfl | rfl | rfl | rfl | rfl | rfl | rfl | rfl | rfl | rfl | rfl | rfl | rfl | rfl | rfl | rfl | rfl | rfl | rfl | rfl | rfl | rfl | rfl | rfl | rfl | rfl | rfl | rfl | rfl | rfl | rfl | rfl | rfl | rfl | rfl | rfl | rfl | rfl | rfl | rfl | rfl
  · exact w_c0
  · exact w_c1
  · exact w_c2
  · exact w_c3
  · exact w_c4
  · exact w_c5
  · exact w_c6
  · exact w_c7
  · exact w_c8
  · exact w_c9
  · exact w_c10
  · exact w_c11
  · exact w_c12
  · exact w_c13
  · exact w_c14
  · exact w_c15
  · exact w_c16
  · exact w_c17
  · exact w_c18
  · exact w_c19
  · exact w_c20
  · exact w_c21
  · exact w_c22
  · exact w_c23
  · exact w_c24
  · exact w_c25
  · exact w_c26
  · exact w_c27
  · exact w_c28
  · exact w_c29
  · exact w_c30
  · exact w_c31
  · exact w_c32
  · exact w_c33
  · exact w_c34
  · exact w_c35
  · exact w_c36
  · exact w_c37
  · exact w_c38
  · exact w_c39
  · exact w_c40
  · exact w_c41
  · exact w_c42
  · exact w_c43
  · exact w_c44
  · exact w_c45
  · exact w_c46
  · exact w_c47
  · exact w_c48
  · exact w_c49
  · exact w_c50
  · exact w_c51
  · exact w_c52
  · exact w_c53
  · exact w_c54
  · exact w_c55
  · exact w_c56
  · exact w_c57
  · exact w_c58
set_option maxRecDepth 65536 in
theorem w_t1 : (words1.take 24).all (fun c => isCode c || c.before args0 about1) = true := by decide +kernel
set_option maxRecDepth 65536 in
theorem w_t2 : ((words1.drop 24).take 24).all (fun c => isCode c || c.before args0 about1) = true := by decide +kernel
set_option maxRecDepth 65536 in
theorem w_t3 : (((words1.drop 24).drop 24).take 24).all (fun c => isCode c || c.before args0 about1) = true := by decide +kernel
set_option maxRecDepth 65536 in
theorem w_t4 : ((((words1.drop 24).drop 24).drop 24).take 24).all (fun c => isCode c || c.before args0 about1) = true := by decide +kernel
set_option maxRecDepth 65536 in
theorem w_t5 : (((((words1.drop 24).drop 24).drop 24).drop 24).take 24).all (fun c => isCode c || c.before args0 about1) = true := by decide +kernel
set_option maxRecDepth 65536 in
theorem w_t6 : ((((((words1.drop 24).drop 24).drop 24).drop 24).drop 24).take 24).all (fun c => isCode c || c.before args0 about1) = true := by decide +kernel
set_option maxRecDepth 65536 in
theorem w_t7 : (((((((words1.drop 24).drop 24).drop 24).drop 24).drop 24).drop 24).take 24).all (fun c => isCode c || c.before args0 about1) = true := by decide +kernel
set_option maxRecDepth 65536 in
theorem w_t8 : ((((((((words1.drop 24).drop 24).drop 24).drop 24).drop 24).drop 24).drop 24).take 24).all (fun c => isCode c || c.before args0 about1) = true := by decide +kernel
set_option maxRecDepth 65536 in
theorem w_t9 : (((((((((words1.drop 24).drop 24).drop 24).drop 24).drop 24).drop 24).drop 24).drop 24).take 24).all (fun c => isCode c || c.before args0 about1) = true := by decide +kernel
set_option maxRecDepth 65536 in
theorem w_t10 : ((((((((((words1.drop 24).drop 24).drop 24).drop 24).drop 24).drop 24).drop 24).drop 24).drop 24).take 24).all (fun c => isCode c || c.before args0 about1) = true := by decide +kernel
set_option maxRecDepth 65536 in
theorem w_t11 : (((((((((((words1.drop 24).drop 24).drop 24).drop 24).drop 24).drop 24).drop 24).drop 24).drop 24).drop 24).take 24).all (fun c => isCode c || c.before args0 about1) = true := by decide +kernel
set_option maxRecDepth 65536 in
theorem w_t12 : (((((((((((words1.drop 24).drop 24).drop 24).drop 24).drop 24).drop 24).drop 24).drop 24).drop 24).drop 24).drop 24).all (fun c => isCode c || c.before args0 about1) = true := by decide +kernel
theorem w_tables : (allAtoms (Jvm.Cond.code x code maxLocals ret :: tables_1)).before args0 about1 = true := by
  rw [allAtoms_all]
  show words1.all (fun c => c.before args0 about1) = true
  refine all_split ?_ w_codes
  rw [← List.take_append_drop 24 words1, List.all_append, w_t1, ← List.take_append_drop 24 (words1.drop 24), List.all_append, w_t2, ← List.take_append_drop 24 ((words1.drop 24).drop 24), List.all_append, w_t3, ← List.take_append_drop 24 (((words1.drop 24).drop 24).drop 24), List.all_append, w_t4, ← List.take_append_drop 24 ((((words1.drop 24).drop 24).drop 24).drop 24), List.all_append, w_t5, ← List.take_append_drop 24 (((((words1.drop 24).drop 24).drop 24).drop 24).drop 24), List.all_append, w_t6, ← List.take_append_drop 24 ((((((words1.drop 24).drop 24).drop 24).drop 24).drop 24).drop 24), List.all_append, w_t7, ← List.take_append_drop 24 (((((((words1.drop 24).drop 24).drop 24).drop 24).drop 24).drop 24).drop 24), List.all_append, w_t8, ← List.take_append_drop 24 ((((((((words1.drop 24).drop 24).drop 24).drop 24).drop 24).drop 24).drop 24).drop 24), List.all_append, w_t9, ← List.take_append_drop 24 (((((((((words1.drop 24).drop 24).drop 24).drop 24).drop 24).drop 24).drop 24).drop 24).drop 24), List.all_append, w_t10, ← List.take_append_drop 24 ((((((((((words1.drop 24).drop 24).drop 24).drop 24).drop 24).drop 24).drop 24).drop 24).drop 24).drop 24), List.all_append, w_t11, w_t12]
  rfl
set_option maxRecDepth 65536 in
theorem w_rest : rest_1_c.before args0 about1 = true := by decide +kernel
set_option maxRecDepth 65536 in
theorem w_case : (Jvm.Cond.and given_1 narrow_1).before args0 about1 = true := by decide +kernel
set_option maxRecDepth 65536 in
theorem w_consts : constsHeld consts_1 about1 := Jvm.Lit.constsHeldB_iff.mp (by decide +kernel)
theorem w_applies : (headSpec (Jvm.Cond.code x code maxLocals ret :: tables_1) room_1).applies x e0.platform about1 = true :=
  (Spec.applies_iff w_frames).mpr ⟨w_running, w_runnable, w_alone, w_named, w_hears, w_ripe, w_room, w_tables⟩
theorem atStart : AtStart classFile x code maxLocals ret World_1 tables_1 room_1 Calls_1 rest_1 Pre_1 launch0 p0 e0 about1 theMethod args0 below0 :=
  ⟨lists_1, trivial, launch0.admits_env _ _ _, launch0.least_env, fairChoices_fair.cas, fairChoices_fair.clock, w_frames, w_args, w_heap, w_applies, ⟨w_consts, trivial⟩, w_rest, w_case⟩
end start1
theorem witness_1 : WitnessClaimed_1 := ⟨start1.p0, start1.e0, start1.about1, start1.theMethod, start1.args0, start1.below0, start1.atStart⟩
end Jvm.Pilot.@@N@@
