import JvmDerived
import JvmDerived.Pilot.@@N@@Statement
import JvmDerived.Pilot.@@N@@Code
set_option linter.unusedVariables false
set_option linter.unusedSimpArgs false
@@BLOCK:NumsL.lean.txt@@
namespace Jvm.RoadKit
open Sem ClassFile Op Lib Jvm.Stand Jvm.Free Jvm.LawKit
section New
variable {p : Program} {l : Launch} {e : Env} {R : Room} {s : State} {m : MethodId} {args : Array Value} {below : List Frame} {meth : Method} {c : Code} {T : State} {locs : List Loc} {cells slots : Nat}
theorem retI (X : Stand p l e R s m args below meth c T locs cells slots) (hx : p.tables.exec = Jvm.exec) {pc : Nat} {Ls : Array Slot} {z : Int32} {rest : List Value} (hret : meth.sig.returnType = some .int) (hd : decode c.code pc = .ok (.ireturn, 1)) {fs : List Frame}
    (hl : ∀ (f : JFrame) (acts : List Action), f.method = m → f.locked = none → f.entered = [] → (doReturn e (T.setTop f) acts (some (.int z))).1 = T.setFrames fs) : Steps p.tables e below (T.setTop (mkF m pc Ls (.int z :: rest))) (T.setFrames fs) := by
  have hm' : T.vm.method? m = some meth := X.method'
  have hn : narrow .int (.int z) = .int z := rfl
  show Steps p.tables e below (T.setTop { method := m, pc := pc, locals := Ls, stack := _ :: rest, locked := none }) _
  jvm_step X.here [X.here.top, hx, hd, hm', hret, hn]
  first | (intro acts; rw [hl _ acts rfl rfl rfl]) | rw [hl _ _ rfl rfl rfl]
  exact Steps.refl _
end New
end Jvm.RoadKit
/- laws to paste: Road.backV, StrChars.narrow_ch (cut by pick.py; bodies as the Statement names them) -/
namespace Jvm.Pilot.@@N@@
namespace StrChars
open Jvm Sem ClassFile Op Lib Jvm.Stand Jvm.Free.XT Jvm.Free.ALB Jvm.Free.JM Jvm.Free
open Jvm.Lib.Cold (StaticIs)
/-- a char array whose places are chars -/
def Ch (a : Addr) (A : Cell) (U : State) : Prop := Arr .char a A U ∧ Typed .char A
theorem Ch.mv {a : Addr} {A : Cell} {U U' : State} (h : Ch a A U) (hal : U.vm.Alike U'.vm) (hh : U'.heap = U.heap) : Ch a A U' := ⟨h.1.mv hal hh, h.2⟩
theorem Ch.keep {a : Addr} {A : Cell} {U U' : State} (h : Ch a A U) (hal : U.vm.Alike U'.vm) (hk : U'.heap[a]? = some A) : Ch a A U' := ⟨h.1.keep hal hk, h.2⟩
/-- what place i of a char[]'s cell holds -/
def cv (A : Cell) (i : Nat) : Int32 := match A.slots[i]? with | some (.int x) => x | _ => 0
theorem Ch.get {a : Addr} {A : Cell} {U : State} (h : Ch a A U) {i : Nat} (hi : i < A.slots.size) : A.slots[i]? = some (.int (cv A i)) := by
  have e := Array.getElem?_eq_getElem hi
  have f := h.2 i _ e
  unfold cv; rw [e]
  generalize A.slots[i] = v at f
  cases v <;> simp [fits] at f ⊢
/-- the byte that i2b leaves of a char -/
def lo8 (x : Int32) : Int32 := x.toInt8.toInt32
theorem fits_lo8 (y : Int32) : fits .byte (.int (lo8 y)) = true := by
  have h1 := y.toInt8.le_toInt
  have h2 := y.toInt8.toInt_lt
  simp only [lo8, fits, Bool.and_eq_true, decide_eq_true_eq, Int32.le_iff_toInt_le, Int8.toInt_toInt32, show (-128 : Int32).toInt = -128 from by decide, show (127 : Int32).toInt = 127 from by decide]
  omega
/-- A' is A but that each place j of lo .. hi - 1 holds f j -/
def Laid (A A' : Cell) (lo hi : Nat) (f : Nat → Value) : Prop := A'.cls = A.cls ∧ A'.vm = A.vm ∧ A'.slots.size = A.slots.size ∧ ∀ i, A'.slots[i]? = if lo ≤ i ∧ i < hi then some (f i) else A.slots[i]?
theorem Laid.zero (A : Cell) (lo : Nat) (f : Nat → Value) : Laid A A lo (lo + 0) f := ⟨rfl, rfl, rfl, fun i => by rw [if_neg (by omega)]⟩
theorem Laid.step {A Ak : Cell} {lo k : Nat} {f : Nat → Value} {v : Value} (h : Laid A Ak lo k f) (hlo : lo ≤ k) (hk : k < Ak.slots.size) (hv : v = f k) : Laid A (Ak.setSlot k v) lo (k + 1) f := by
  refine ⟨h.1, h.2.1, by simpa [Cell.setSlot] using h.2.2.1, fun i => ?_⟩
  by_cases e : k = i
  · subst e; rw [Cell.slots_setSlot_self v hk, if_pos (by omega), hv]
  · rw [Cell.slots_setSlot_ne v e, h.2.2.2 i]
    by_cases q : lo ≤ i ∧ i < k
    · rw [if_pos q, if_pos (by omega)]
    · rw [if_neg q, if_neg (by omega)]
def U16 : String := "java/lang/StringUTF16"
namespace Cmp5
def yN : MethodName := ⟨"java/lang/StringUTF16", "compress", "([CI[BII)I"⟩
abbrev yB : ByteArray := jdk_52_method_21_code
theorem d0 : decode yB 0 = .ok (.iconst 0, 1) := by decide +kernel
theorem d1 : decode yB 1 = .ok (.istore 5, 2) := by decide +kernel
theorem d3 : decode yB 3 = .ok (.iload 5, 2) := by decide +kernel
theorem d5 : decode yB 5 = .ok (.iload 4, 2) := by decide +kernel
theorem d7 : decode yB 7 = .ok (.if_icmp (.ge) 37, 3) := by decide +kernel
theorem d10 : decode yB 10 = .ok (.aload_n 0, 1) := by decide +kernel
theorem d11 : decode yB 11 = .ok (.iload_n 1, 1) := by decide +kernel
theorem d12 : decode yB 12 = .ok (.caload, 1) := by decide +kernel
theorem d13 : decode yB 13 = .ok (.istore 6, 2) := by decide +kernel
theorem d15 : decode yB 15 = .ok (.iload 6, 2) := by decide +kernel
theorem d17 : decode yB 17 = .ok (.sipush 255, 3) := by decide +kernel
theorem d20 : decode yB 20 = .ok (.if_icmp (.le) 6, 3) := by decide +kernel
theorem d26 : decode yB 26 = .ok (.aload_n 2, 1) := by decide +kernel
theorem d27 : decode yB 27 = .ok (.iload_n 3, 1) := by decide +kernel
theorem d28 : decode yB 28 = .ok (.iload 6, 2) := by decide +kernel
theorem d30 : decode yB 30 = .ok (.i2b, 1) := by decide +kernel
theorem d31 : decode yB 31 = .ok (.bastore, 1) := by decide +kernel
theorem d32 : decode yB 32 = .ok (.iinc 1 1, 3) := by decide +kernel
theorem d35 : decode yB 35 = .ok (.iinc 3 1, 3) := by decide +kernel
theorem d38 : decode yB 38 = .ok (.iinc 5 1, 3) := by decide +kernel
theorem d41 : decode yB 41 = .ok (.goto (-38), 3) := by decide +kernel
theorem d44 : decode yB 44 = .ok (.iload 4, 2) := by decide +kernel
theorem d46 : decode yB 46 = .ok (.ireturn, 1) := by decide +kernel
def site : List Cond := []
def tab : Cond := tabOf yN yB 7 (some .int) site
def P (b : Addr) (A : Cell) (d : Addr) (B : Cell) (o q len : Nat) (args : Array Value) (s : State) : Prop := args = #[.ref b, .int (Int32.ofNat o), .ref d, .int (Int32.ofNat q), .int (Int32.ofNat len)] ∧ Ch b A s ∧ Arr .byte d B s ∧ b ≠ d ∧ o + len ≤ A.slots.size ∧ q + len ≤ B.slots.size ∧ ∀ i, i < len → ¬ 255 < cv A (o + i)
def E (b : Addr) (A : Cell) (d : Addr) (B : Cell) (o q len : Nat) (r : Option Value) (s u : State) : Prop := r = some (.int (Int32.ofNat len)) ∧ ∃ B', Put d B' s u ∧ Laid B B' q (q + len) (fun j => Value.int (lo8 (cv A (o + (j - q)))))
/-- no char of the range above 255: len; the places written hold each char's low byte -/
theorem law (l : Launch) (b : Addr) (A : Cell) (d : Addr) (B : Cell) (o q len : Nat) : Law l yN 5 5 0 0 yB 7 (some .int) site (P b A d B o q len) (E b A d B o q len) (copyLocs d q len) 0 0 := by
  refine Law.of_walk (plainFor_of_name (by decide +kernel)) (by decide +kernel) (by decide +kernel) (by decide) (fun _ _ h => by rw [h.1]; rfl) (fun _ U U' hal hh h => ⟨h.1, h.2.1.mv hal hh, h.2.2.1.mv hal hh, h.2.2.2⟩) (fun r U U' V V' h1 hal h2 h => ⟨h.1, h.2.elim fun B' q => ⟨B', q.1.mv h1 h2, q.2⟩⟩) ?_
  intro p e s m args below meth c s₁ X0 hexec hbytes hml hret hlk hnm hown hh0 W hP
  obtain ⟨rfl, hA, hB, hne, l1, l2, hp⟩ := hP
  have c1 : Steps p.tables e below (s₁.setTop (entryFrame m #[.ref b, .int (Int32.ofNat o), .ref d, .int (Int32.ofNat q), .int (Int32.ofNat len)] 7)) (s₁.setTop (mkF m 0 #[.val (.ref b), .val (.int (Int32.ofNat o)), .val (.ref d), .val (.int (Int32.ofNat q)), .val (.int (Int32.ofNat len)), .unset, .unset] [])) := entry rfl
  have hA0 := hA.1.mv X0.warmed.alike hh0
  have hB0 := hB.mv X0.warmed.alike hh0
  have a31 := hA.1.2.2.2
  have c2 : Steps p.tables e below (s₁.setTop (entryFrame m #[.ref b, .int (Int32.ofNat o), .ref d, .int (Int32.ofNat q), .int (Int32.ofNat len)] 7)) (s₁.setTop (mkF m 3 #[.val (.ref b), .val (.int (Int32.ofNat o)), .val (.ref d), .val (.int (Int32.ofNat q)), .val (.int (Int32.ofNat len)), .val (.int 0), .unset] [])) := c1.trans (by
    refine iconstV X0.here hexec rfl 0 (hb hbytes d0) (by decide) ?_
    refine XS.istore X0.here hexec rfl (hb hbytes d1) rfl rfl ?_
    exact Steps.refl _)
  have loop : ∀ (r i : Nat), i + r = len → ∀ (z : Slot), (z = .unset ∨ ∃ w, z = .val w ∧ w.category = 1) → ∀ (Tl : State) (Bk : Cell), Stand p l e { frames := 0, locals := 0, cells := 0, slots := 0 } s m #[.ref b, .int (Int32.ofNat o), .ref d, .int (Int32.ofNat q), .int (Int32.ofNat len)] below meth c Tl ([] ++ copyLocs d q i) 0 0 → Put d Bk s₁ Tl → Laid B Bk q (q + i) (fun j => Value.int (lo8 (cv A (o + (j - q))))) →
      Steps p.tables e below (s₁.setTop (entryFrame m #[.ref b, .int (Int32.ofNat o), .ref d, .int (Int32.ofNat q), .int (Int32.ofNat len)] 7)) (Tl.setTop (mkF m 3 #[.val (.ref b), .val (.int (Int32.ofNat (o + i))), .val (.ref d), .val (.int (Int32.ofNat (q + i))), .val (.int (Int32.ofNat len)), .val (.int (Int32.ofNat i)), z] [])) → ∃ (T' : State) (B' : Cell) (z' : Slot), Stand p l e { frames := 0, locals := 0, cells := 0, slots := 0 } s m #[.ref b, .int (Int32.ofNat o), .ref d, .int (Int32.ofNat q), .int (Int32.ofNat len)] below meth c T' ([] ++ copyLocs d q len) 0 0 ∧ Put d B' s₁ T' ∧ Laid B B' q (q + len) (fun j => Value.int (lo8 (cv A (o + (j - q))))) ∧
      Steps p.tables e below (s₁.setTop (entryFrame m #[.ref b, .int (Int32.ofNat o), .ref d, .int (Int32.ofNat q), .int (Int32.ofNat len)] 7)) (T'.setTop (mkF m 3 #[.val (.ref b), .val (.int (Int32.ofNat (o + len))), .val (.ref d), .val (.int (Int32.ofNat (q + len))), .val (.int (Int32.ofNat len)), .val (.int (Int32.ofNat len)), z'] [])) := by
    intro r
    induction r with
    | zero =>
      intro i hi z hz Tl Bk Xl pl fl cl
      have hil : i = len := by omega
      rw [hil] at Xl fl cl
      exact ⟨Tl, Bk, z, Xl, pl, fl, cl⟩
    | succ r ih =>
      intro i hi z hz Tl Bk Xl pl fl cl
      have all := X0.warmed.alike.symm.trans Xl.warmed.alike
      have hAl := hA0.keep all (pl.other hne hA0.1)
      have hBk := hB0.like all pl.1 fl.1 fl.2.1 fl.2.2.1
      have hlt : q + i < Bk.slots.size := by rw [fl.2.2.1]; omega
      have c3 : Steps p.tables e below (s₁.setTop (entryFrame m #[.ref b, .int (Int32.ofNat o), .ref d, .int (Int32.ofNat q), .int (Int32.ofNat len)] 7)) (Tl.setTop (mkF m 12 #[.val (.ref b), .val (.int (Int32.ofNat (o + i))), .val (.ref d), .val (.int (Int32.ofNat (q + i))), .val (.int (Int32.ofNat len)), .val (.int (Int32.ofNat i)), z] [.int (Int32.ofNat (o + i)), .ref b])) := cl.trans (by
        refine XS.iload Xl.here hexec rfl (hb hbytes d3) rfl ?_
        refine XS.iload Xl.here hexec rfl (hb hbytes d5) rfl ?_
        refine XS.icmpNo Xl.here hexec rfl (hb hbytes d7) rfl (ii_ge_f (lt32 (by omega) (by omega))) ?_
        refine XS.aloadN Xl.here hexec rfl (hb hbytes d10) rfl rfl ?_
        refine XS.iloadN Xl.here hexec rfl (hb hbytes d11) rfl ?_
        exact Steps.refl _)
      have c4 : Steps p.tables e below (s₁.setTop (entryFrame m #[.ref b, .int (Int32.ofNat o), .ref d, .int (Int32.ofNat q), .int (Int32.ofNat len)] 7)) (Tl.setTop (mkF m 13 #[.val (.ref b), .val (.int (Int32.ofNat (o + i))), .val (.ref d), .val (.int (Int32.ofNat (q + i))), .val (.int (Int32.ofNat len)), .val (.int (Int32.ofNat i)), z] [.int (cv A (o + i))])) := c3.trans (by
        refine Xl.aget hexec hAl rfl (hA.get (i := o + i) (by omega)) rfl rfl (hb hbytes d12) ?_
        exact Steps.refl _)
      have c5 : Steps p.tables e below (s₁.setTop (entryFrame m #[.ref b, .int (Int32.ofNat o), .ref d, .int (Int32.ofNat q), .int (Int32.ofNat len)] 7)) (Tl.setTop (mkF m 15 #[.val (.ref b), .val (.int (Int32.ofNat (o + i))), .val (.ref d), .val (.int (Int32.ofNat (q + i))), .val (.int (Int32.ofNat len)), .val (.int (Int32.ofNat i)), .val (.int (cv A (o + i)))] [])) := c4.trans (by
        refine XS.istoreS Xl.here hexec rfl (hb hbytes d13) rfl rfl hz ?_
        exact Steps.refl _)
      have c6 : Steps p.tables e below (s₁.setTop (entryFrame m #[.ref b, .int (Int32.ofNat o), .ref d, .int (Int32.ofNat q), .int (Int32.ofNat len)] 7)) (Tl.setTop (mkF m 31 #[.val (.ref b), .val (.int (Int32.ofNat (o + i))), .val (.ref d), .val (.int (Int32.ofNat (q + i))), .val (.int (Int32.ofNat len)), .val (.int (Int32.ofNat i)), .val (.int (cv A (o + i)))] [.int (lo8 (cv A (o + i))), .int (Int32.ofNat (q + i)), .ref d])) := c5.trans (by
        refine XS.iload Xl.here hexec rfl (hb hbytes d15) rfl ?_
        refine sipushV Xl.here hexec rfl 255 (hb hbytes d17) (by decide) ?_
        refine XS.icmpYes Xl.here hexec rfl (pc0 := 20) rfl (hb hbytes d20) rfl (ii_le_t (hp i (by omega))) (by decide) rfl ?_
        refine XS.aloadN Xl.here hexec rfl (hb hbytes d26) rfl rfl ?_
        refine XS.iloadN Xl.here hexec rfl (hb hbytes d27) rfl ?_
        refine XS.iload Xl.here hexec rfl (hb hbytes d28) rfl ?_
        refine i2b Xl.here hexec rfl (hb hbytes d30) rfl ?_
        exact Steps.refl _)
      obtain ⟨T7, X7, p7, st7⟩ := Xl.aput hexec hBk rfl hlt rfl (fits_lo8 (cv A (o + i))) (g := (mkF m 31 #[.val (.ref b), .val (.int (Int32.ofNat (o + i))), .val (.ref d), .val (.int (Int32.ofNat (q + i))), .val (.int (Int32.ofNat len)), .val (.int (Int32.ofNat i)), .val (.int (cv A (o + i)))] [.int (lo8 (cv A (o + i))), .int (Int32.ofNat (q + i)), .ref d])) rfl (rest := []) rfl (hb hbytes d31)
      have c8 : Steps p.tables e below (s₁.setTop (entryFrame m #[.ref b, .int (Int32.ofNat o), .ref d, .int (Int32.ofNat q), .int (Int32.ofNat len)] 7)) (T7.setTop (mkF m 32 #[.val (.ref b), .val (.int (Int32.ofNat (o + i))), .val (.ref d), .val (.int (Int32.ofNat (q + i))), .val (.int (Int32.ofNat len)), .val (.int (Int32.ofNat i)), .val (.int (cv A (o + i)))] [])) := c6.trans (st7 _ (Steps.refl _))
      have c9 : Steps p.tables e below (s₁.setTop (entryFrame m #[.ref b, .int (Int32.ofNat o), .ref d, .int (Int32.ofNat q), .int (Int32.ofNat len)] 7)) (T7.setTop (mkF m 3 #[.val (.ref b), .val (.int (Int32.ofNat (o + i) + 1)), .val (.ref d), .val (.int (Int32.ofNat (q + i) + 1)), .val (.int (Int32.ofNat len)), .val (.int (Int32.ofNat i + 1)), .val (.int (cv A (o + i)))] [])) := c8.trans (by
        refine iincV X7.here hexec rfl 1 (hb hbytes d32) (by decide) rfl rfl ?_
        refine iincV X7.here hexec rfl 1 (hb hbytes d35) (by decide) rfl rfl ?_
        refine iincV X7.here hexec rfl 1 (hb hbytes d38) (by decide) rfl rfl ?_
        refine XS.goto X7.here hexec rfl (pc0 := 41) rfl (hb hbytes d41) (by decide) rfl ?_
        exact Steps.refl _)
      have c10 : Steps p.tables e below (s₁.setTop (entryFrame m #[.ref b, .int (Int32.ofNat o), .ref d, .int (Int32.ofNat q), .int (Int32.ofNat len)] 7)) (T7.setTop (mkF m 3 #[.val (.ref b), .val (.int (Int32.ofNat (o + (i + 1)))), .val (.ref d), .val (.int (Int32.ofNat (q + (i + 1)))), .val (.int (Int32.ofNat len)), .val (.int (Int32.ofNat (i + 1))), .val (.int (cv A (o + i)))] [])) := by
        have := c9
        rw [succ32, succ32, succ32] at this
        exact this
      exact ih (i + 1) (by omega) _ (Or.inr ⟨_, rfl, rfl⟩) T7 _ (by rw [copyLocs_step, ← List.append_assoc]; exact X7) (pl.trans p7) (fl.step (by omega) hlt (by simp)) c10
  obtain ⟨T9, B9, z9, X9, p9, f9, g9⟩ := loop len 0 (by omega) .unset (Or.inl rfl) s₁ B (by simpa [copyLocs] using X0) ⟨hB0.1, fun _ _ => rfl, rfl⟩ (Laid.zero _ _ _) c2
  have c11 : Steps p.tables e below (s₁.setTop (entryFrame m #[.ref b, .int (Int32.ofNat o), .ref d, .int (Int32.ofNat q), .int (Int32.ofNat len)] 7)) (T9.setTop (mkF m 46 #[.val (.ref b), .val (.int (Int32.ofNat (o + len))), .val (.ref d), .val (.int (Int32.ofNat (q + len))), .val (.int (Int32.ofNat len)), .val (.int (Int32.ofNat len)), z9] [.int (Int32.ofNat len)])) := g9.trans (by
    refine XS.iload X9.here hexec rfl (hb hbytes d3) rfl ?_
    refine XS.iload X9.here hexec rfl (hb hbytes d5) rfl ?_
    refine XS.icmpYes X9.here hexec rfl (pc0 := 7) rfl (hb hbytes d7) rfl (ii_ge_t (nlt32 (by omega) (Nat.le_refl _))) (by decide) rfl ?_
    refine XS.iload X9.here hexec rfl (hb hbytes d44) rfl ?_
    exact Steps.refl _)
  exact ⟨T9, some (.int (Int32.ofNat len)), _, _, _, X9, by simp, rfl, rfl, (fun h => by cases h), ⟨rfl, B9, p9.from hh0, f9⟩, fun fs hl => c11.trans (X9.ireturnOut hexec hret rfl (Or.inl rfl) (hb hbytes d46) hl)⟩
end Cmp5
namespace Cmp3
def yN : MethodName := ⟨"java/lang/StringUTF16", "compress", "([CII)[B"⟩
abbrev yB : ByteArray := jdk_52_method_16_code
theorem d0 : decode yB 0 = .ok (.iload_n 2, 1) := by decide +kernel
theorem d1 : decode yB 1 = .ok (.newarray .byte, 2) := by decide +kernel
theorem d3 : decode yB 3 = .ok (.astore_n 3, 1) := by decide +kernel
theorem d4 : decode yB 4 = .ok (.aload_n 0, 1) := by decide +kernel
theorem d5 : decode yB 5 = .ok (.iload_n 1, 1) := by decide +kernel
theorem d6 : decode yB 6 = .ok (.aload_n 3, 1) := by decide +kernel
theorem d7 : decode yB 7 = .ok (.iconst 0, 1) := by decide +kernel
theorem d8 : decode yB 8 = .ok (.iload_n 2, 1) := by decide +kernel
theorem d9 : decode yB 9 = .ok (.invokestatic 115, 3) := by decide +kernel
theorem d12 : decode yB 12 = .ok (.istore 4, 2) := by decide +kernel
theorem d14 : decode yB 14 = .ok (.iload 4, 2) := by decide +kernel
theorem d16 : decode yB 16 = .ok (.iload_n 2, 1) := by decide +kernel
theorem d17 : decode yB 17 = .ok (.if_icmp (.eq) 40, 3) := by decide +kernel
theorem d57 : decode yB 57 = .ok (.aload_n 3, 1) := by decide +kernel
theorem d58 : decode yB 58 = .ok (.areturn, 1) := by decide +kernel
def site : List Cond := [.arrayClass .byte, Cmp5.tab] ++ staticW U16 115 Cmp5.yN
def tab : Cond := tabOf yN yB 6 (some (.array .byte)) site
def P (b : Addr) (A : Cell) (o len : Nat) (args : Array Value) (s : State) : Prop := args = #[.ref b, .int (Int32.ofNat o), .int (Int32.ofNat len)] ∧ Ch b A s ∧ o + len ≤ A.slots.size ∧ len ≤ 536870912 ∧ ∀ i, i < len → ¬ 255 < cv A (o + i)
def E (b : Addr) (A : Cell) (o len : Nat) (r : Option Value) (s u : State) : Prop := NewArr .byte "[B" len (fun j => .int (lo8 (cv A (o + j)))) r s u ∧ u.heap.size = s.heap.size + 1
/-- no char of the range above 255: a new byte[] of their low bytes -/
theorem law (l : Launch) (b : Addr) (A : Cell) (o len : Nat) : Law l yN 3 3 1 18 yB 6 (some (.array .byte)) site (P b A o len) (E b A o len) [] 1 len := by
  refine Law.of_walk (plainFor_of_name (by decide +kernel)) (by decide +kernel) (by decide +kernel) (by decide) (fun _ _ h => by rw [h.1]; rfl) (fun _ U U' hal hh h => ⟨h.1, h.2.1.mv hal hh, h.2.2⟩) (fun r U U' V V' h1 hal h2 h => ⟨NewArr.mv r U U' V V' h1 hal h2 h.1, by rw [h1, h2]; exact h.2⟩) ?_
  intro p e s m args below meth c s₁ X0 hexec hbytes hml hret hlk hnm hown hh0 W hP
  obtain ⟨rfl, hA, l1, l2, hp⟩ := hP
  have a31 := hA.1.2.2.2
  have c1 : Steps p.tables e below (s₁.setTop (entryFrame m #[.ref b, .int (Int32.ofNat o), .int (Int32.ofNat len)] 6)) (s₁.setTop (mkF m 0 #[.val (.ref b), .val (.int (Int32.ofNat o)), .val (.int (Int32.ofNat len)), .unset, .unset, .unset] [])) := entry rfl
  have c2 : Steps p.tables e below (s₁.setTop (entryFrame m #[.ref b, .int (Int32.ofNat o), .int (Int32.ofNat len)] 6)) (s₁.setTop (mkF m 1 #[.val (.ref b), .val (.int (Int32.ofNat o)), .val (.int (Int32.ofNat len)), .unset, .unset, .unset] [.int (Int32.ofNat len)])) := c1.trans (by
    refine XS.iloadN X0.here hexec rfl (hb hbytes d0) rfl ?_
    exact Steps.refl _)
  obtain ⟨T3, B3, X3, ba3, bs3, bv3, bh3, bf3, st3⟩ := X0.anew hexec (atype := .byte) (wk W (.arrayClass .byte)) rfl (by show len * 1 ≤ _; omega) (by omega) (g := (mkF m 1 #[.val (.ref b), .val (.int (Int32.ofNat o)), .val (.int (Int32.ofNat len)), .unset, .unset, .unset] [.int (Int32.ofNat len)])) rfl (hb hbytes d1) (rest := []) rfl (Nat.le_refl _) (by show 0 + len ≤ len; omega)
  rw [hh0] at ba3 st3
  have kp3 : XT.Kept s T3 := (XT.Kept.of_eq hh0).push bh3
  have hA3 := hA.keep X3.warmed.alike (kp3 _ _ hA.1.1)
  have hne : b ≠ s.heap.size := hA.1.ne
  have c4 : Steps p.tables e below (s₁.setTop (entryFrame m #[.ref b, .int (Int32.ofNat o), .int (Int32.ofNat len)] 6)) (T3.setTop (mkF m 3 #[.val (.ref b), .val (.int (Int32.ofNat o)), .val (.int (Int32.ofNat len)), .unset, .unset, .unset] [.ref s.heap.size])) := c2.trans (st3 _ (Steps.refl _))
  have c5 : Steps p.tables e below (s₁.setTop (entryFrame m #[.ref b, .int (Int32.ofNat o), .int (Int32.ofNat len)] 6)) (T3.setTop (mkF m 9 #[.val (.ref b), .val (.int (Int32.ofNat o)), .val (.int (Int32.ofNat len)), .val (.ref s.heap.size), .unset, .unset] [.int (Int32.ofNat len), .int 0, .ref s.heap.size, .int (Int32.ofNat o), .ref b])) := c4.trans (by
    refine XS.astoreN X3.here hexec rfl (hb hbytes d3) rfl rfl rfl ?_
    refine XS.aloadN X3.here hexec rfl (hb hbytes d4) rfl rfl ?_
    refine XS.iloadN X3.here hexec rfl (hb hbytes d5) rfl ?_
    refine XS.aloadN X3.here hexec rfl (hb hbytes d6) rfl rfl ?_
    refine iconstV X3.here hexec rfl 0 (hb hbytes d7) (by decide) ?_
    refine XS.iloadN X3.here hexec rfl (hb hbytes d8) rfl ?_
    exact Steps.refl _)
  obtain ⟨v6, T6, X6, E6, g6⟩ := X3.callS hexec (Cmp5.law l b A s.heap.size B3 o 0 len) hown (wks W (staticW U16 115 Cmp5.yN)) (wk W Cmp5.tab) (W := 0) (Nat.le_of_ble_eq_true rfl) (Nat.le_of_ble_eq_true rfl) (Nat.le_refl _) (by show 0 + len + 0 ≤ len; omega) (g := (mkF m 9 #[.val (.ref b), .val (.int (Int32.ofNat o)), .val (.int (Int32.ofNat len)), .val (.ref s.heap.size), .unset, .unset] [.int (Int32.ofNat len), .int (Int32.ofNat 0), .ref s.heap.size, .int (Int32.ofNat o), .ref b])) rfl (by rw [hml]; rfl) c5 (argsL := [.ref b, .int (Int32.ofNat o), .ref s.heap.size, .int (Int32.ofNat 0), .int (Int32.ofNat len)]) (rest := []) rfl rfl (by show 2 * 0 + 0 ≤ _; decide) (hb hbytes d9) (⟨rfl, hA3, ba3, hne, l1, by rw [bs3]; simp, hp⟩)
  obtain ⟨rfl, B6, p6, f6⟩ := E6
  have c7 : Steps p.tables e below (s₁.setTop (entryFrame m #[.ref b, .int (Int32.ofNat o), .int (Int32.ofNat len)] 6)) (T6.setTop (mkF m 12 #[.val (.ref b), .val (.int (Int32.ofNat o)), .val (.int (Int32.ofNat len)), .val (.ref s.heap.size), .unset, .unset] [.int (Int32.ofNat len)])) := g6
  have c8 : Steps p.tables e below (s₁.setTop (entryFrame m #[.ref b, .int (Int32.ofNat o), .int (Int32.ofNat len)] 6)) (T6.setTop (mkF m 58 #[.val (.ref b), .val (.int (Int32.ofNat o)), .val (.int (Int32.ofNat len)), .val (.ref s.heap.size), .val (.int (Int32.ofNat len)), .unset] [.ref s.heap.size])) := c7.trans (by
    refine XS.istore X6.here hexec rfl (hb hbytes d12) rfl rfl ?_
    refine XS.iload X6.here hexec rfl (hb hbytes d14) rfl ?_
    refine XS.iloadN X6.here hexec rfl (hb hbytes d16) rfl ?_
    refine XS.icmpYes X6.here hexec rfl (pc0 := 17) rfl (hb hbytes d17) rfl (ii_eq_t rfl) (by decide) rfl ?_
    refine XS.aloadN X6.here hexec rfl (hb hbytes d57) rfl rfl ?_
    exact Steps.refl _)
  have X8 := X6.wide (L' := []) (cells' := 1) (slots' := len) (fun x hx hlt => by
    simp only [List.nil_append, copyLocs, List.mem_map, List.mem_range] at hx
    obtain ⟨i, -, rfl⟩ := hx
    exact absurd hlt (Nat.lt_irrefl _)) (Nat.le_refl _) (by omega)
  exact ⟨T6, some (.ref s.heap.size), _, _, _, X8, rfl, rfl, rfl, (fun h => by cases h), ⟨⟨rfl, B6, ba3.like (X3.warmed.alike.symm.trans X6.warmed.alike) p6.1 f6.1 f6.2.1 f6.2.2.1, f6.2.1.trans bv3, by rw [X6.warmed.alike.findClass, f6.1]; exact bf3, by rw [f6.2.2.1, bs3]; simp, fun j hj => by rw [f6.2.2.2 j, if_pos (by omega)]; rfl, kp3.put p6 (Nat.le_refl _)⟩, by rw [p6.2.2, bh3, hh0]; simp⟩, fun fs hl => c8.trans (X8.areturnOut hexec rfl hret rfl (hb hbytes d58) hl)⟩
end Cmp3
namespace CodL
def yN : MethodName := ⟨"java/lang/StringUTF16", "coderFromArrayLen", "([BI)B"⟩
abbrev yB : ByteArray := jdk_52_method_15_code
theorem d0 : decode yB 0 = .ok (.iload_n 1, 1) := by decide +kernel
theorem d1 : decode yB 1 = .ok (.aload_n 0, 1) := by decide +kernel
theorem d2 : decode yB 2 = .ok (.arraylength, 1) := by decide +kernel
theorem d3 : decode yB 3 = .ok (.isub, 1) := by decide +kernel
theorem d4 : decode yB 4 = .ok (.bipush 31, 2) := by decide +kernel
theorem d6 : decode yB 6 = .ok (.iushr, 1) := by decide +kernel
theorem d7 : decode yB 7 = .ok (.i2b, 1) := by decide +kernel
theorem d8 : decode yB 8 = .ok (.ireturn, 1) := by decide +kernel
def site : List Cond := []
def tab : Cond := tabOf yN yB 2 (some .byte) site
def P (d : Addr) (B : Cell) (args : Array Value) (s : State) : Prop := args = #[.ref d, .int (Int32.ofNat B.slots.size)] ∧ Arr .byte d B s
def E (r : Option Value) (s u : State) : Prop := XT.PureE (some (.int 0)) r s u
/-- an array as long as the number of chars: LATIN1 -/
theorem law (l : Launch) (d : Addr) (B : Cell) : Law l yN 2 2 0 0 yB 2 (some .byte) site (P d B) E [] 0 0 := by
  refine Law.of_walk (plainFor_of_name (by decide +kernel)) (by decide +kernel) (by decide +kernel) (by decide) (fun _ _ h => by rw [h.1]; rfl) (fun _ U U' hal hh h => ⟨h.1, h.2.mv hal hh⟩) (fun r U U' V V' h1 hal h2 h => XT.PureE.mv r U U' V V' h1 hal h2 h) ?_
  intro p e s m args below meth c s₁ X0 hexec hbytes hml hret hlk hnm hown hh0 W hP
  obtain ⟨rfl, hB⟩ := hP
  have hB0 := hB.mv X0.warmed.alike hh0
  have c1 : Steps p.tables e below (s₁.setTop (entryFrame m #[.ref d, .int (Int32.ofNat B.slots.size)] 2)) (s₁.setTop (mkF m 0 #[.val (.ref d), .val (.int (Int32.ofNat B.slots.size))] [])) := entry rfl
  have c2 : Steps p.tables e below (s₁.setTop (entryFrame m #[.ref d, .int (Int32.ofNat B.slots.size)] 2)) (s₁.setTop (mkF m 2 #[.val (.ref d), .val (.int (Int32.ofNat B.slots.size))] [.ref d, .int (Int32.ofNat B.slots.size)])) := c1.trans (by
    refine XS.iloadN X0.here hexec rfl (hb hbytes d0) rfl ?_
    refine XS.aloadN X0.here hexec rfl (hb hbytes d1) rfl rfl ?_
    exact Steps.refl _)
  have c3 : Steps p.tables e below (s₁.setTop (entryFrame m #[.ref d, .int (Int32.ofNat B.slots.size)] 2)) (s₁.setTop (mkF m 8 #[.val (.ref d), .val (.int (Int32.ofNat B.slots.size))] [.int (lo8 (ushr (Int32.ofNat B.slots.size - Int32.ofNat B.slots.size) 31))])) := c2.trans (by
    refine X0.alen hexec hB0 rfl rfl (hb hbytes d2) ?_
    refine XS.isub X0.here hexec rfl (hb hbytes d3) rfl ?_
    refine bipushV X0.here hexec rfl 31 (hb hbytes d4) (by decide) ?_
    refine iushr X0.here hexec rfl (hb hbytes d6) rfl ?_
    refine i2b X0.here hexec rfl (hb hbytes d7) rfl ?_
    exact Steps.refl _)
  have e0 : lo8 (ushr (Int32.ofNat B.slots.size - Int32.ofNat B.slots.size) 31) = 0 := by rw [Int32.sub_self]; decide
  rw [e0] at c3
  exact ⟨s₁, some (.int 0), _, _, _, X0, rfl, rfl, rfl, (fun h => by cases h), ⟨rfl, hh0⟩, fun fs hl => c3.trans (X0.ireturnOut hexec hret rfl (Or.inr (Or.inr (Or.inl rfl))) (hb hbytes d8) hl)⟩
end CodL
/-- the String at a is Latin-1 over a new byte[] (the heap's one new cell): the low bytes of the len chars of A from o on; every cell but a is kept -/
def Got (a : Addr) (D : Cell) (fV fC : Field) (A : Cell) (o len : Nat) (r : Option Value) (s u : State) : Prop := r = none ∧ ∃ D' V : Cell, Blank "java/lang/String" a D' u ∧ Same D D' [fV.slot, fC.slot] ∧ D'.slots[fV.slot]? = some (.ref s.heap.size) ∧ D'.slots[fC.slot]? = some (.int 0) ∧ Arr .byte s.heap.size V u ∧ V.vm = .none ∧ u.vm.findClass "[B" = some V.cls ∧ V.slots.size = len ∧ (∀ j, j < len → V.slots[j]? = some (.int (lo8 (cv A (o + j))))) ∧ (∀ (y : Addr) (c : Cell), y ≠ a → s.heap[y]? = some c → u.heap[y]? = some c) ∧ u.heap.size = s.heap.size + 1
theorem Got.mv {a : Addr} {D A : Cell} {fV fC : Field} {o len : Nat} : ∀ r (U U' V V' : State), U'.heap = U.heap → V.vm.Alike V'.vm → V'.heap = V.heap → Got a D fV fC A o len r U V → Got a D fV fC A o len r U' V' :=
  fun r U U' V V' h1 hal h2 ⟨e0, D', X, a1, a2, a3, a4, a5, a6, a7, a8, a9, a10, a11⟩ => ⟨e0, D', X, a1.mv hal h2, a2, by rw [h1]; exact a3, a4, by rw [h1]; exact a5.mv hal h2, a6, by rw [hal.findClass]; exact a7, a8, a9, by rw [h1, h2]; exact a10, by rw [h1, h2]; exact a11⟩
namespace New4
def yN : MethodName := ⟨"java/lang/String", "<init>", "([CIILjava/lang/Void;)V"⟩
abbrev yB : ByteArray := jdk_42_method_149_code
theorem d0 : decode yB 0 = .ok (.aload_n 0, 1) := by decide +kernel
theorem d1 : decode yB 1 = .ok (.invokespecial 1, 3) := by decide +kernel
theorem d4 : decode yB 4 = .ok (.iload_n 3, 1) := by decide +kernel
theorem d5 : decode yB 5 = .ok (.ifCond (.ne) 22, 3) := by decide +kernel
theorem d27 : decode yB 27 = .ok (.getstatic 38, 3) := by decide +kernel
theorem d30 : decode yB 30 = .ok (.ifCond (.eq) 28, 3) := by decide +kernel
theorem d33 : decode yB 33 = .ok (.aload_n 1, 1) := by decide +kernel
theorem d34 : decode yB 34 = .ok (.iload_n 2, 1) := by decide +kernel
theorem d35 : decode yB 35 = .ok (.iload_n 3, 1) := by decide +kernel
theorem d36 : decode yB 36 = .ok (.invokestatic 177, 3) := by decide +kernel
theorem d39 : decode yB 39 = .ok (.astore 5, 2) := by decide +kernel
theorem d41 : decode yB 41 = .ok (.aload_n 0, 1) := by decide +kernel
theorem d42 : decode yB 42 = .ok (.aload 5, 2) := by decide +kernel
theorem d44 : decode yB 44 = .ok (.iload_n 3, 1) := by decide +kernel
theorem d45 : decode yB 45 = .ok (.invokestatic 47, 3) := by decide +kernel
theorem d48 : decode yB 48 = .ok (.putfield 15, 3) := by decide +kernel
theorem d51 : decode yB 51 = .ok (.aload_n 0, 1) := by decide +kernel
theorem d52 : decode yB 52 = .ok (.aload 5, 2) := by decide +kernel
theorem d54 : decode yB 54 = .ok (.putfield 9, 3) := by decide +kernel
theorem d57 : decode yB 57 = .ok (.return_, 1) := by decide +kernel
def site : List Cond := [.fieldLink "java/lang/String" 38 "java/lang/String" "COMPACT_STRINGS" "Z", Cmp3.tab, CodL.tab, .laysFinal "java/lang/String" "java/lang/String" "value" "[B", .fieldLink "java/lang/String" 9 "java/lang/String" "value" "[B", .laysFinal "java/lang/String" "java/lang/String" "coder" "B", .fieldLink "java/lang/String" 15 "java/lang/String" "coder" "B"] ++ objW "java/lang/String" 1 ++ staticW "java/lang/String" 177 Cmp3.yN ++ staticW "java/lang/String" 47 CodL.yN
def tab : Cond := tabOf yN yB 6 none site
def P (a : Addr) (D : Cell) (fV fC : Field) (b : Addr) (A : Cell) (z : Int32) (o len : Nat) (args : Array Value) (s : State) : Prop := args = #[.ref a, .ref b, .int (Int32.ofNat o), .int (Int32.ofNat len), .null] ∧ Blank "java/lang/String" a D s ∧ Found "java/lang/String" "value" "[B" fV s ∧ Found "java/lang/String" "coder" "B" fC s ∧ Ch b A s ∧ StaticIs s "java/lang/String" "COMPACT_STRINGS" "Z" (.int z) ∧ ¬ z = 0 ∧ 0 < len ∧ o + len ≤ A.slots.size ∧ len ≤ 536870912 ∧ ∀ i, i < len → ¬ 255 < cv A (o + i)
def E (a : Addr) (D : Cell) (fV fC : Field) (A : Cell) (o len : Nat) (r : Option Value) (s u : State) : Prop := Got a D fV fC A o len r s u
/-- len > 0, no char of the range above 255: a Latin-1 String of their low bytes -/
theorem law (l : Launch) (a : Addr) (D : Cell) (fV fC : Field) (b : Addr) (A : Cell) (z : Int32) (o len : Nat) : Law l yN 5 4 2 35 yB 6 none site (P a D fV fC b A z o len) (E a D fV fC A o len) [⟨a, fC.slot⟩, ⟨a, fV.slot⟩] 1 len := by
  refine Law.of_walk (plainFor_of_name (by decide +kernel)) (by decide +kernel) (by decide +kernel) (by decide) (fun _ _ h => by rw [h.1]; rfl) (fun _ U U' hal hh h => ⟨h.1, h.2.1.mv hal hh, h.2.2.1.al hal, h.2.2.2.1.al hal, h.2.2.2.2.1.mv hal hh, h.2.2.2.2.2.1.there hal hh, h.2.2.2.2.2.2⟩) (fun r U U' V V' h1 hal h2 h => Got.mv r U U' V V' h1 hal h2 h) ?_
  intro p e s m args below meth c s₁ X0 hexec hbytes hml hret hlk hnm hown hh0 W hP
  obtain ⟨rfl, hB, f1, f2, hA, s1, hz, l0, l1, l2, hp⟩ := hP
  have a31 := hA.1.2.2.2
  have c1 : Steps p.tables e below (s₁.setTop (entryFrame m #[.ref a, .ref b, .int (Int32.ofNat o), .int (Int32.ofNat len), .null] 6)) (s₁.setTop (mkF m 0 #[.val (.ref a), .val (.ref b), .val (.int (Int32.ofNat o)), .val (.int (Int32.ofNat len)), .val .null, .unset] [])) := entry rfl
  have c2 : Steps p.tables e below (s₁.setTop (entryFrame m #[.ref a, .ref b, .int (Int32.ofNat o), .int (Int32.ofNat len), .null] 6)) (s₁.setTop (mkF m 1 #[.val (.ref a), .val (.ref b), .val (.int (Int32.ofNat o)), .val (.int (Int32.ofNat len)), .val .null, .unset] [.ref a])) := c1.trans (by
    refine XS.aloadN X0.here hexec rfl (hb hbytes d0) rfl rfl ?_
    exact Steps.refl _)
  obtain ⟨T3, X3, q3, st3⟩ := X0.oinit hexec hown (wks W (objW "java/lang/String" 1)) (g := (mkF m 1 #[.val (.ref a), .val (.ref b), .val (.int (Int32.ofNat o)), .val (.int (Int32.ofNat len)), .val .null, .unset] [.ref a])) rfl (by rw [hml]; rfl) (rest := []) rfl (hb hbytes d1) (W := 0) (by show 2 * 0 + 0 ≤ _; decide) (Nat.le_of_ble_eq_true rfl) (Nat.le_of_ble_eq_true rfl)
  have hh3 := q3.trans hh0
  have c4 : Steps p.tables e below (s₁.setTop (entryFrame m #[.ref a, .ref b, .int (Int32.ofNat o), .int (Int32.ofNat len), .null] 6)) (T3.setTop (mkF m 27 #[.val (.ref a), .val (.ref b), .val (.int (Int32.ofNat o)), .val (.int (Int32.ofNat len)), .val .null, .unset] [])) := (c2.trans (st3 _ (Steps.refl _))).trans (by
    refine XS.iloadN X3.here hexec rfl (hb hbytes d4) rfl ?_
    refine XS.ifYes X3.here hexec rfl (pc0 := 5) rfl (hb hbytes d5) rfl (i0_ne_t (nz32 (by omega) l0)) (by decide) rfl ?_
    exact Steps.refl _)
  obtain ⟨T5, X5, q5, st5⟩ := X3.sget hexec hown (wk W (.fieldLink "java/lang/String" 38 "java/lang/String" "COMPACT_STRINGS" "Z")) s1 (fun _ _ h => by rw [hh3]; exact h) (g := (mkF m 27 #[.val (.ref a), .val (.ref b), .val (.int (Int32.ofNat o)), .val (.int (Int32.ofNat len)), .val .null, .unset] [])) rfl (hb hbytes d27)
  have hh5 := q5.trans hh3
  have c6 : Steps p.tables e below (s₁.setTop (entryFrame m #[.ref a, .ref b, .int (Int32.ofNat o), .int (Int32.ofNat len), .null] 6)) (T5.setTop (mkF m 30 #[.val (.ref a), .val (.ref b), .val (.int (Int32.ofNat o)), .val (.int (Int32.ofNat len)), .val .null, .unset] [.int z])) := c4.trans (st5 _ (Steps.refl _))
  have c7 : Steps p.tables e below (s₁.setTop (entryFrame m #[.ref a, .ref b, .int (Int32.ofNat o), .int (Int32.ofNat len), .null] 6)) (T5.setTop (mkF m 36 #[.val (.ref a), .val (.ref b), .val (.int (Int32.ofNat o)), .val (.int (Int32.ofNat len)), .val .null, .unset] [.int (Int32.ofNat len), .int (Int32.ofNat o), .ref b])) := c6.trans (by
    refine XS.ifNo X5.here hexec rfl (hb hbytes d30) rfl (i0_eq_f hz) ?_
    refine XS.aloadN X5.here hexec rfl (hb hbytes d33) rfl rfl ?_
    refine XS.iloadN X5.here hexec rfl (hb hbytes d34) rfl ?_
    refine XS.iloadN X5.here hexec rfl (hb hbytes d35) rfl ?_
    exact Steps.refl _)
  obtain ⟨v8, T8, X8, E8, g8⟩ := X5.callS hexec (Cmp3.law l b A o len) hown (wks W (staticW "java/lang/String" 177 Cmp3.yN)) (wk W Cmp3.tab) (W := 0) (Nat.le_of_ble_eq_true rfl) (Nat.le_of_ble_eq_true rfl) (Nat.le_refl _) (by show 0 + len ≤ len; omega) (g := (mkF m 36 #[.val (.ref a), .val (.ref b), .val (.int (Int32.ofNat o)), .val (.int (Int32.ofNat len)), .val .null, .unset] [.int (Int32.ofNat len), .int (Int32.ofNat o), .ref b])) rfl (by rw [hml]; rfl) c7 (argsL := [.ref b, .int (Int32.ofNat o), .int (Int32.ofNat len)]) (rest := []) rfl rfl (by show 2 * 0 + 0 ≤ _; decide) (hb hbytes d36) (⟨rfl, hA.mv X5.warmed.alike hh5, l1, l2, hp⟩)
  obtain ⟨e8, z8⟩ := E8
  obtain ⟨rfl, N, n1, n2, n3, n4, n5, n6⟩ := NewArr.mv _ T5 s _ _ hh5.symm (Vm.Alike.refl _) rfl e8
  rw [hh5] at z8
  have hB1 := hB.keep X8.warmed.alike (n6 _ _ hB.1)
  have hne : s.heap.size ≠ a := (Nat.ne_of_lt (Array.getElem?_eq_some_iff.mp hB.1).1).symm
  have c9 : Steps p.tables e below (s₁.setTop (entryFrame m #[.ref a, .ref b, .int (Int32.ofNat o), .int (Int32.ofNat len), .null] 6)) (T8.setTop (mkF m 39 #[.val (.ref a), .val (.ref b), .val (.int (Int32.ofNat o)), .val (.int (Int32.ofNat len)), .val .null, .unset] [.ref s.heap.size])) := g8
  have c10 : Steps p.tables e below (s₁.setTop (entryFrame m #[.ref a, .ref b, .int (Int32.ofNat o), .int (Int32.ofNat len), .null] 6)) (T8.setTop (mkF m 45 #[.val (.ref a), .val (.ref b), .val (.int (Int32.ofNat o)), .val (.int (Int32.ofNat len)), .val .null, .val (.ref s.heap.size)] [.int (Int32.ofNat N.slots.size), .ref s.heap.size, .ref a])) := by
    have hc : Steps p.tables e below (s₁.setTop (entryFrame m #[.ref a, .ref b, .int (Int32.ofNat o), .int (Int32.ofNat len), .null] 6)) (T8.setTop (mkF m 45 #[.val (.ref a), .val (.ref b), .val (.int (Int32.ofNat o)), .val (.int (Int32.ofNat len)), .val .null, .val (.ref s.heap.size)] [.int (Int32.ofNat len), .ref s.heap.size, .ref a])) := c9.trans (by
      refine XS.astore X8.here hexec rfl (hb hbytes d39) rfl rfl rfl ?_
      refine XS.aloadN X8.here hexec rfl (hb hbytes d41) rfl rfl ?_
      refine XS.aload X8.here hexec rfl (hb hbytes d42) rfl rfl ?_
      refine XS.iloadN X8.here hexec rfl (hb hbytes d44) rfl ?_
      exact Steps.refl _)
    rw [n4]; exact hc
  obtain ⟨v11, T11, X11, E11, g11⟩ := X8.callS hexec (CodL.law l s.heap.size N) hown (wks W (staticW "java/lang/String" 47 CodL.yN)) (wk W CodL.tab) (W := 1) (Nat.le_of_ble_eq_true rfl) (Nat.le_of_ble_eq_true rfl) (Nat.le_refl _) (by show 0 + len + 0 ≤ len; omega) (g := (mkF m 45 #[.val (.ref a), .val (.ref b), .val (.int (Int32.ofNat o)), .val (.int (Int32.ofNat len)), .val .null, .val (.ref s.heap.size)] [.int (Int32.ofNat N.slots.size), .ref s.heap.size, .ref a])) rfl (by rw [hml]; rfl) c10 (argsL := [.ref s.heap.size, .int (Int32.ofNat N.slots.size)]) (rest := [.ref a]) rfl rfl (by show 2 * 0 + (1 + 0) ≤ _; decide) (hb hbytes d45) (⟨rfl, n1⟩)
  obtain ⟨rfl, q11⟩ := E11
  have hB11 := hB1.mv (X8.warmed.alike.symm.trans X11.warmed.alike) q11
  have c12 : Steps p.tables e below (s₁.setTop (entryFrame m #[.ref a, .ref b, .int (Int32.ofNat o), .int (Int32.ofNat len), .null] 6)) (T11.setTop (mkF m 48 #[.val (.ref a), .val (.ref b), .val (.int (Int32.ofNat o)), .val (.int (Int32.ofNat len)), .val .null, .val (.ref s.heap.size)] [.int 0, .ref a])) := g11
  obtain ⟨T13, X13, p13, bl13, sl13, st13⟩ := X11.finit hexec hown (wk W (.fieldLink "java/lang/String" 15 "java/lang/String" "coder" "B")) (Or.inr ⟨_, (wk W (.laysFinal "java/lang/String" "java/lang/String" "coder" "B"))⟩) (Or.inl ⟨rfl, hnm⟩) f2 (Or.inl rfl) hB11 (t := .byte) (by decide +kernel) rfl (g := (mkF m 48 #[.val (.ref a), .val (.ref b), .val (.int (Int32.ofNat o)), .val (.int (Int32.ofNat len)), .val .null, .val (.ref s.heap.size)] [.int 0, .ref a])) rfl (rest := []) rfl (hb hbytes d48)
  have c14 : Steps p.tables e below (s₁.setTop (entryFrame m #[.ref a, .ref b, .int (Int32.ofNat o), .int (Int32.ofNat len), .null] 6)) (T13.setTop (mkF m 54 #[.val (.ref a), .val (.ref b), .val (.int (Int32.ofNat o)), .val (.int (Int32.ofNat len)), .val .null, .val (.ref s.heap.size)] [.ref s.heap.size, .ref a])) := (c12.trans (st13 _ (Steps.refl _))).trans (by
    refine XS.aloadN X13.here hexec rfl (hb hbytes d51) rfl rfl ?_
    refine XS.aload X13.here hexec rfl (hb hbytes d52) rfl rfl ?_
    exact Steps.refl _)
  obtain ⟨T15, X15, p15, bl15, sl15, st15⟩ := X13.finit hexec hown (wk W (.fieldLink "java/lang/String" 9 "java/lang/String" "value" "[B")) (Or.inr ⟨_, (wk W (.laysFinal "java/lang/String" "java/lang/String" "value" "[B"))⟩) (Or.inl ⟨rfl, hnm⟩) f1 (Or.inl rfl) bl13 (t := (.array .byte)) (by decide +kernel) rfl (g := (mkF m 54 #[.val (.ref a), .val (.ref b), .val (.int (Int32.ofNat o)), .val (.int (Int32.ofNat len)), .val .null, .val (.ref s.heap.size)] [.ref s.heap.size, .ref a])) rfl (rest := []) rfl (hb hbytes d54)
  have c16 : Steps p.tables e below (s₁.setTop (entryFrame m #[.ref a, .ref b, .int (Int32.ofNat o), .int (Int32.ofNat len), .null] 6)) (T15.setTop (mkF m 57 #[.val (.ref a), .val (.ref b), .val (.int (Int32.ofNat o)), .val (.int (Int32.ofNat len)), .val .null, .val (.ref s.heap.size)] [])) := c14.trans (st15 _ (Steps.refl _))
  have ap := apart (Or.inr ⟨_, (wk W (.laysFinal "java/lang/String" "java/lang/String" "value" "[B"))⟩) (Or.inr ⟨_, (wk W (.laysFinal "java/lang/String" "java/lang/String" "coder" "B"))⟩) f1 f2 (t₁ := .array .byte) (t₂ := .byte) (by decide +kernel) (by decide +kernel) (by decide)
  have al := X8.warmed.alike.symm.trans X15.warmed.alike
  have n7 : T11.heap[s.heap.size]? = some N := by rw [q11]; exact n1.1
  exact ⟨T15, none, _, _, _, X15, by simp, rfl, by omega, (fun _ => rfl), ⟨rfl, _, N, bl15, ((Same.refl D _).set _ (by simp)).set _ (by simp), sl15, (Cell.slots_setSlot_ne _ ap).trans sl13, n1.keep al (p15.other hne (p13.other hne n7)), n2, by rw [al.findClass]; exact n3, n4, n5, fun y c h1 h2 => p15.other h1 (p13.other h1 (by rw [q11]; exact n6 y c h2)), by rw [p15.2.2, p13.2.2, q11]; exact z8⟩, fun fs hl => c16.trans (X15.returnOut hexec hret (hb hbytes d57) hl)⟩
end New4
namespace New1
def yN : MethodName := ⟨"java/lang/String", "<init>", "([C)V"⟩
abbrev yB : ByteArray := jdk_42_method_3_code
theorem d0 : decode yB 0 = .ok (.aload_n 0, 1) := by decide +kernel
theorem d1 : decode yB 1 = .ok (.aload_n 1, 1) := by decide +kernel
theorem d2 : decode yB 2 = .ok (.iconst 0, 1) := by decide +kernel
theorem d3 : decode yB 3 = .ok (.aload_n 1, 1) := by decide +kernel
theorem d4 : decode yB 4 = .ok (.arraylength, 1) := by decide +kernel
theorem d5 : decode yB 5 = .ok (.aconst_null, 1) := by decide +kernel
theorem d6 : decode yB 6 = .ok (.invokespecial 27, 3) := by decide +kernel
theorem d9 : decode yB 9 = .ok (.return_, 1) := by decide +kernel
def site : List Cond := [New4.tab] ++ initW "java/lang/String" 27 New4.yN
def tab : Cond := tabOf yN yB 2 none site
def P (a : Addr) (D : Cell) (fV fC : Field) (b : Addr) (A : Cell) (z : Int32) (args : Array Value) (s : State) : Prop := args = #[.ref a, .ref b] ∧ Blank "java/lang/String" a D s ∧ Found "java/lang/String" "value" "[B" fV s ∧ Found "java/lang/String" "coder" "B" fC s ∧ Ch b A s ∧ StaticIs s "java/lang/String" "COMPACT_STRINGS" "Z" (.int z) ∧ ¬ z = 0 ∧ 0 < A.slots.size ∧ A.slots.size ≤ 536870912 ∧ ∀ i, i < A.slots.size → ¬ 255 < cv A i
def E (a : Addr) (D : Cell) (fV fC : Field) (A : Cell) (r : Option Value) (s u : State) : Prop := Got a D fV fC A 0 A.slots.size r s u
/-- new String(chars), not empty, no char above 255: a Latin-1 String of their low bytes -/
theorem law (l : Launch) (a : Addr) (D : Cell) (fV fC : Field) (b : Addr) (A : Cell) (z : Int32) : Law l yN 2 1 3 52 yB 2 none site (P a D fV fC b A z) (E a D fV fC A) [⟨a, fC.slot⟩, ⟨a, fV.slot⟩] 1 A.slots.size := by
  refine Law.of_walk (plainFor_of_name (by decide +kernel)) (by decide +kernel) (by decide +kernel) (by decide) (fun _ _ h => by rw [h.1]; rfl) (fun _ U U' hal hh h => ⟨h.1, h.2.1.mv hal hh, h.2.2.1.al hal, h.2.2.2.1.al hal, h.2.2.2.2.1.mv hal hh, h.2.2.2.2.2.1.there hal hh, h.2.2.2.2.2.2⟩) (fun r U U' V V' h1 hal h2 h => Got.mv r U U' V V' h1 hal h2 h) ?_
  intro p e s m args below meth c s₁ X0 hexec hbytes hml hret hlk hnm hown hh0 W hP
  obtain ⟨rfl, hB, f1, f2, hA, s1, hz, l0, l2, hp⟩ := hP
  have c1 : Steps p.tables e below (s₁.setTop (entryFrame m #[.ref a, .ref b] 2)) (s₁.setTop (mkF m 0 #[.val (.ref a), .val (.ref b)] [])) := entry rfl
  have c2 : Steps p.tables e below (s₁.setTop (entryFrame m #[.ref a, .ref b] 2)) (s₁.setTop (mkF m 6 #[.val (.ref a), .val (.ref b)] [.null, .int (Int32.ofNat A.slots.size), .int 0, .ref b, .ref a])) := c1.trans (by
    refine XS.aloadN X0.here hexec rfl (hb hbytes d0) rfl rfl ?_
    refine XS.aloadN X0.here hexec rfl (hb hbytes d1) rfl rfl ?_
    refine iconstV X0.here hexec rfl 0 (hb hbytes d2) (by decide) ?_
    refine XS.aloadN X0.here hexec rfl (hb hbytes d3) rfl rfl ?_
    refine X0.alen hexec (hA.1.mv X0.warmed.alike hh0) rfl rfl (hb hbytes d4) ?_
    refine XS.aconstNull X0.here hexec rfl (hb hbytes d5) ?_
    exact Steps.refl _)
  obtain ⟨v3, T3, X3, E3, g3⟩ := X0.callN hexec (New4.law l a D fV fC b A z 0 A.slots.size) rfl hown (wks W (initW "java/lang/String" 27 New4.yN)) (W New4.tab (by simp only [site, List.mem_cons, List.mem_append, true_or, or_true])) (W := 0) (Nat.le_of_ble_eq_true rfl) (Nat.le_of_ble_eq_true rfl) (Nat.le_refl _) (by show 0 + A.slots.size ≤ A.slots.size; omega) (g := (mkF m 6 #[.val (.ref a), .val (.ref b)] [.null, .int (Int32.ofNat A.slots.size), .int (Int32.ofNat 0), .ref b, .ref a])) rfl (by rw [hml]; rfl) c2 (argsL := [.ref b, .int (Int32.ofNat 0), .int (Int32.ofNat A.slots.size), .null]) (rest := []) rfl rfl (by show 2 * 0 + 0 ≤ _; decide) (hb hbytes d6) (⟨rfl, hB.mv X0.warmed.alike hh0, f1.al X0.warmed.alike, f2.al X0.warmed.alike, hA.mv X0.warmed.alike hh0, s1.there X0.warmed.alike hh0, hz, l0, by omega, l2, fun i hi => by rw [Nat.zero_add]; exact hp i hi⟩)
  have e0 := Got.mv _ s₁ s _ _ hh0.symm (Vm.Alike.refl _) rfl E3
  obtain rfl := e0.1
  have c4 : Steps p.tables e below (s₁.setTop (entryFrame m #[.ref a, .ref b] 2)) (T3.setTop (mkF m 9 #[.val (.ref a), .val (.ref b)] [])) := g3
  exact ⟨T3, none, _, _, _, X3, by simp, rfl, by omega, (fun _ => rfl), e0, fun fs hl => c4.trans (X3.returnOut hexec hret (hb hbytes d9) hl)⟩
theorem pays {l : Launch} {R : Room} {p : Program} {e : Env} {below : List Frame} {s : State} {sargs : Array Value} {len W : Nat} (a : Addr) (D : Cell) (fV fC : Field) (b : Addr) (A : Cell) (z : Int32) (htab : tab.before sargs s = true) (hfr : 4 ≤ R.frames) (hlo : W + 65 ≤ R.locals) :
    Back l R p e below s sargs yN len W (fun A₁ a₁ => A₁.cells + 1 ≤ R.cells ∧ A₁.slots + A.slots.size ≤ R.slots ∧ P a D fV fC b A z a₁ A₁.U) (fun A₁ _ v₁ B₁ => E a D fV fC A v₁ A₁.U B₁.U ∧ B₁.locs = A₁.locs ++ [⟨a, fC.slot⟩, ⟨a, fV.slot⟩] ∧ B₁.cells = A₁.cells + 1 ∧ B₁.slots = A₁.slots + A.slots.size) :=
  (law l a D fV fC b A z).pays htab hfr (by omega)
end New1
end StrChars
namespace StrChars.Road
open Jvm Sem ClassFile Op Lib Jvm.Stand Jvm.Free Jvm.Free.XT
open Jvm.Lib.Cold (StaticIs)
abbrev ST : String := "java/lang/String"
/-- every table word that New1's law asks, flat -/
abbrev words : List Jvm.Cond := [.code New1.yN New1.yB 2 none, .initialized ST, .methodLink ST 27 New4.yN, .instanceMethod New4.yN,
  .code New4.yN New4.yB 6 none, .fieldLink ST 38 ST "COMPACT_STRINGS" "Z", .laysFinal ST ST "value" "[B", .fieldLink ST 9 ST "value" "[B", .laysFinal ST ST "coder" "B", .fieldLink ST 15 ST "coder" "B",
  .methodLink ST 1 Lib.objectInit, .instanceMethod Lib.objectInit, .code Lib.objectInit ⟨#[0xb1]⟩ 1 none, .methodLink ST 177 Cmp3.yN, .static Cmp3.yN, .methodLink ST 47 CodL.yN, .static CodL.yN,
  .code Cmp3.yN Cmp3.yB 6 (some (.array .byte)), .initialized U16, .arrayClass .byte, .methodLink U16 115 Cmp5.yN, .static Cmp5.yN, .code Cmp5.yN Cmp5.yB 7 (some .int), .code CodL.yN CodL.yB 2 (some .byte)]
theorem tab_of {a : Array Value} {s : State} (h : ∀ w ∈ words, w.before a s = true) : New1.tab.before a s = true := by
  have h5 : Cmp5.tab.before a s = true := unparts (wk h (.code Cmp5.yN Cmp5.yB 7 (some .int))) (wks h (.initialized Cmp5.yN.cls :: Cmp5.site))
  have hc : CodL.tab.before a s = true := unparts (wk h (.code CodL.yN CodL.yB 2 (some .byte))) (wks h (.initialized CodL.yN.cls :: CodL.site))
  have q5 : ∀ w ∈ Cmp5.tab :: words, w.before a s = true := fun w hw => (List.mem_cons.mp hw).elim (fun e => e ▸ h5) (h w)
  have h3 : Cmp3.tab.before a s = true := unparts (wk q5 (.code Cmp3.yN Cmp3.yB 6 (some (.array .byte)))) (wks q5 (.initialized Cmp3.yN.cls :: Cmp3.site))
  have q3 : ∀ w ∈ Cmp3.tab :: CodL.tab :: words, w.before a s = true := fun w hw => (List.mem_cons.mp hw).elim (fun e => e ▸ h3) fun hw => (List.mem_cons.mp hw).elim (fun e => e ▸ hc) (h w)
  have h4 : New4.tab.before a s = true := unparts (wk q3 (.code New4.yN New4.yB 6 none)) (wks q3 (.initialized New4.yN.cls :: New4.site))
  have q4 : ∀ w ∈ New4.tab :: words, w.before a s = true := fun w hw => (List.mem_cons.mp hw).elim (fun e => e ▸ h4) (h w)
  exact unparts (wk q4 (.code New1.yN New1.yB 2 none)) (wks q4 (.initialized New1.yN.cls :: New1.site))
/-- the words ride from the start Z to the walk's own state -/
theorem moved {Z s : State} {a0 args : Array Value} (hZ : Z.Warmed39 s.vm) (hw : ∀ d ∈ words, d.before a0 Z = true) : ∀ d ∈ words, d.before args s = true := fun d hd => by
  have q := hw d hd
  have t : ∀ d ∈ words, d = .arrayClass .byte ∨ (d.onTables && d.keepsFace) = true := by decide +kernel
  rcases t d hd with rfl | t
  · exact RoadKit.mvA hZ q
  · exact RoadKit.mv hZ q t
/-- WHAT COMES BACK, over the tables of the start Z: h the heap at the call, h' behind it -/
def Q (Z : State) (x : Addr) (A : Cell) (h : Heap) (v : Option Value) (h' : Heap) (L : List Loc) : Prop := v = none ∧ (∀ y ∈ L, y.base = x) ∧ RoadKit.Keep h h' [x] ∧ h'.size = h.size + 1 ∧ RoadKit.Exa Z h' x ST ∧ RoadKit.Fld Z h' x ST "value" "[B" (.ref h.size) ∧ RoadKit.Fld Z h' x ST "coder" "B" (.int 0) ∧
  (∃ V : Cell, RoadKit.Arr Z h' h.size V .byte ∧ V.vm = .none ∧ Z.vm.findClass "[B" = some V.cls ∧ V.slots.size = A.slots.size ∧ ∀ j, j < A.slots.size → V.slots[j]? = some (.int (lo8 (cv A j)))) ∧
  ∀ (O n d : String) (w : Value), RoadKit.Fld Z h x O n d w → RoadKit.slotOf Z O n d ≠ RoadKit.slotOf Z ST "value" "[B" → RoadKit.slotOf Z O n d ≠ RoadKit.slotOf Z ST "coder" "B" → RoadKit.Fld Z h' x O n d w
/-- **new String(chars) AT A CALL, IN THE ROAD'S FORM**: for specialBack behind newO: x the fresh String, b the char[] with the cell A -/
theorem back {p : Program} {l : Launch} {e : Env} {R : Room} {s : State} {args : Array Value} {below : List Frame} {len W : Nat} {Z : State} {a0 : Array Value} {h : Heap} (hZ : Z.Warmed39 s.vm) (hw : ∀ d ∈ words, d.before a0 Z = true) {kI : Nat} (wi : (Jvm.Cond.instantiable ST kI).before a0 Z = true)
    {x b : Addr} {A : Cell} {z : Int32} {v0 c0 : Value} (E : RoadKit.Exa Z h x ST) (V : RoadKit.Fld Z h x ST "value" "[B" v0) (C : RoadKit.Fld Z h x ST "coder" "B" c0) (K : RoadKit.Arr Z h b A .char) (hty : Typed .char A) (S : RoadKit.Sta Z h ST "COMPACT_STRINGS" "Z" (.int z)) (hz : ¬ z = 0)
    (l0 : 0 < A.slots.size) (l2 : A.slots.size ≤ 536870912) (hp : ∀ i, i < A.slots.size → ¬ 255 < cv A i) (hfr : 4 ≤ R.frames) (hlo : W + 65 ≤ R.locals) :
    Back l R p e below s args New1.yN len W (fun P a => a = #[.ref x, .ref b] ∧ P.U.heap = h ∧ P.cells + 1 ≤ R.cells ∧ P.slots + A.slots.size ≤ R.slots)
      (fun P _ v B => ∃ L, Q Z x A h v B.U.heap L ∧ B.locs = P.locs ++ L ∧ B.cells = P.cells + 1 ∧ B.slots = P.slots + A.slots.size) := by
  intro m meth c P g ig mk a X hg hsize hdg hW hn hp'
  obtain ⟨rfl, rfl, r1, r2⟩ := hp'
  have al : Z.vm.Alike P.U.vm := hZ.alike.trans X.warmed.alike
  obtain ⟨D, cfV, kV, iV, fV, hD, gV, stV, knV, obV, asV, slV⟩ := id V
  obtain ⟨D', cfC, kC, iC, fC, hD', gC, stC, -, -, asC, slC⟩ := id C
  cases hD.symm.trans hD'
  obtain ⟨D2, kD, e1, e2, e3, e4, e5⟩ := id E
  cases hD.symm.trans e1
  obtain ⟨c2, k2, i1, i2, i3, -⟩ := Cond.instantiable_spec wi
  cases e2.symm.trans i1
  cases e3.symm.trans i2
  obtain ⟨kU, u1, u2⟩ := al.2.2 _ _ e3
  have hB : Blank ST x D P.U := ⟨hD, ⟨knV, fun q hq => by rw [hq] at obV; cases obV⟩, by rw [al.findClass]; exact e2, kU, u1, by rw [u2]; exact i3, by rw [u2]; exact e5 i3⟩
  have F1 : Found ST "value" "[B" fV P.U := ⟨SBG.found_only al ⟨cfV, kV, iV, gV⟩, stV⟩
  have F2 : Found ST "coder" "B" fC P.U := ⟨SBG.found_only al ⟨cfC, kC, iC, gC⟩, stC⟩
  have hA : Ch b A P.U := ⟨⟨K.1, State.isArrayOf_alike al K.2.1, K.2.2, by omega⟩, hty⟩
  have hS : StaticIs P.U ST "COMPACT_STRINGS" "Z" (.int z) := by
    obtain ⟨cfS, iS, kS, fS, st, cS, t1, t2, t3, t4, t5, t6, t7⟩ := S
    exact StaticIs.there (s := { Z with heap := P.U.heap }) ⟨cfS, iS, kS, fS, st, cS, t1, t2, t3, t4, t5, (fun q => by rw [q] at t6; cases t6), t7⟩ al rfl
  obtain ⟨v, B, X', ⟨⟨hv, E', V', q1, q2, q3, q4, q5, q6, q7, q8, q9, q10, q11⟩, hl, hc, hs⟩, st⟩ := New1.pays x D fV fC b A z (tab_of (moved hZ hw)) hfr hlo m meth c P g ig mk _ X hg hsize hdg hW hn ⟨r1, r2, rfl, hB, F1, F2, hA, hS, hz, l0, l2, hp⟩
  have al' : Z.vm.Alike B.U.vm := hZ.alike.trans X'.warmed.alike
  have hsz : E'.slots.size = D.slots.size := by
    obtain ⟨-, -, -, kB, w1, w2, w3⟩ := q1
    obtain ⟨kB', y1, y2⟩ := al'.2.2 _ _ e3
    rw [q2.2.1] at w1
    cases w1.symm.trans y1
    rw [w3, e5 i3, y2]
  refine ⟨v, B, X', ⟨_, ⟨hv, ?_, ⟨by omega, fun y cy hy hn' => q10 y cy (by simpa using hn') hy, fun y cy hy => ?_⟩, q11, ⟨E', _, q1.1, by rw [q2.2.1]; exact e2, by rw [q2.2.1]; exact e3, by rw [q2.1]; exact obV, fun _ => by rw [hsz]; exact e5 i3⟩,
    ⟨E', cfV, kV, iV, fV, q1.1, gV, stV, by rw [q2.1]; exact knV, by rw [q2.1]; exact obV, by rw [q2.2.1]; exact asV, q3⟩, ⟨E', cfC, kC, iC, fC, q1.1, gC, stC, by rw [q2.1]; exact knV, by rw [q2.1]; exact obV, by rw [q2.2.1]; exact asC, q4⟩,
    ⟨V', ⟨q5.1, State.isArrayOf_alike al'.symm q5.2.1, q5.2.2.1⟩, q6, by rw [← al'.findClass]; exact q7, q8, fun j hj => by have := q9 j hj; rwa [Nat.zero_add] at this⟩, fun O n d w F n1 n2 => ?_⟩, hl, hc, hs⟩, st⟩
  · intro y hy
    simp only [List.mem_cons, List.not_mem_nil, or_false] at hy
    rcases hy with rfl | rfl <;> rfl
  · by_cases q : y = x
    · subst q
      cases hD.symm.trans hy
      exact ⟨E', q1.1, q2.2.1, q2.1, hsz⟩
    · exact ⟨cy, q10 y cy q hy, rfl, rfl, rfl⟩
  · obtain ⟨D3, cf, k, i, f, g1, g2, g3, g4, g5, g6, g7⟩ := F
    cases hD.symm.trans g1
    simp only [RoadKit.slotOf, g2, gV, gC, Option.map_some, Option.getD_some] at n1 n2
    exact ⟨E', cf, k, i, f, q1.1, g2, g3, by rw [q2.1]; exact g4, by rw [q2.1]; exact g5, by rw [q2.2.1]; exact g6, by rw [q2.2.2 f.slot (by simp [n1, n2])]; exact g7⟩
end StrChars.Road
namespace StrChars.Road
open Jvm Sem ClassFile Op Lib Jvm.Stand Jvm.Free Jvm.Free.XT
/-- WHAT COMES BACK, the byte[] as a list of values -/
def QA (Z : State) (x : Addr) (zn : Int32) (cs : List Int32) (h : Heap) (v : Option Value) (h' : Heap) (L : List Loc) : Prop := v = none ∧ (∀ y ∈ L, y.base = x) ∧ RoadKit.Keep h h' [x] ∧ h'.size = h.size + 1 ∧ RoadKit.Exa Z h' x ST ∧ RoadKit.Fld Z h' x ST "value" "[B" (.ref h.size) ∧ RoadKit.Fld Z h' x ST "coder" "B" (.int 0) ∧
  (∃ kb, Z.vm.findClass "[B" = some kb ∧ RoadKit.Arv Z h' h.size kb .byte zn (cs.map fun c => .int (lo8 c)) (.int 0)) ∧
  ∀ (O n d : String) (w : Value), RoadKit.Fld Z h x O n d w → RoadKit.slotOf Z O n d ≠ RoadKit.slotOf Z ST "value" "[B" → RoadKit.slotOf Z O n d ≠ RoadKit.slotOf Z ST "coder" "B" → RoadKit.Fld Z h' x O n d w
/-- **new String(chars) AT A CALL, THE ARRAYS AS LISTS**: the char[] at b holds cs, not empty, no char above 255 -/
theorem backArv {p : Program} {l : Launch} {e : Env} {R : Room} {s : State} {args : Array Value} {below : List Frame} {len W : Nat} {Z : State} {a0 : Array Value} {h : Heap} (hZ : Z.Warmed39 s.vm) (hw : ∀ d ∈ words, d.before a0 Z = true) {kI : Nat} (wi : (Jvm.Cond.instantiable ST kI).before a0 Z = true)
    {x b : Addr} {k : ClassId} {zn z : Int32} {cs : List Int32} {dv v0 c0 : Value} (E : RoadKit.Exa Z h x ST) (V : RoadKit.Fld Z h x ST "value" "[B" v0) (C : RoadKit.Fld Z h x ST "coder" "B" c0) (K : RoadKit.Arv Z h b k .char zn (cs.map Value.int) dv) (S : RoadKit.Sta Z h ST "COMPACT_STRINGS" "Z" (.int z)) (hz : ¬ z = 0)
    (hlen : zn.toNatClampNeg = cs.length) (h0 : 0 < cs.length) (hbig : cs.length ≤ 536870912) (hall : ∀ c ∈ cs, ¬ 255 < c) (hfr : 4 ≤ R.frames) (hlo : W + 65 ≤ R.locals) :
    Back l R p e below s args New1.yN len W (fun P a => a = #[.ref x, .ref b] ∧ P.U.heap = h ∧ P.cells + 1 ≤ R.cells ∧ P.slots + cs.length ≤ R.slots)
      (fun P _ v B => ∃ L, QA Z x zn cs h v B.U.heap L ∧ B.locs = P.locs ++ L ∧ B.cells = P.cells + 1 ∧ B.slots = P.slots + cs.length) := by
  obtain ⟨A, K1, K2, K3, K4, K5, K6⟩ := K
  have e : A.slots.size = cs.length := K3.trans hlen
  have hat : ∀ (i : Nat) (hi : i < cs.length), A.slots[i]? = some (.int cs[i]) := fun i hi => by rw [K5 i (by omega)]; simp [List.getD_eq_getElem?_getD, hi]
  have hcv : ∀ (i : Nat) (hi : i < cs.length), cv A i = cs[i] := fun i hi => by unfold cv; rw [hat i hi]
  have hty : Typed .char A := fun i v hv => by
    have hi : i < A.slots.size := (Array.getElem?_eq_some_iff.mp hv).1
    have q := K5 i hi
    rw [hv] at q
    rw [Option.some.inj q]
    exact K6 i hi
  refine Back.mono (back hZ hw wi E V C K1 hty S hz (by omega) (by omega) (fun i hi => by rw [hcv i (by omega)]; exact hall _ (List.getElem_mem _)) hfr hlo) (fun P a hp => ⟨hp.1, hp.2.1, hp.2.2.1, by rw [e]; exact hp.2.2.2⟩) (fun P a v B hp hq => ?_)
  obtain ⟨L, ⟨q1, q2, q3, q4, q5, q6, q7, ⟨V', v1, v2, v3, v4, v5⟩, q9⟩, hl, hc, hs⟩ := hq
  refine ⟨L, ⟨q1, q2, q3, q4, q5, q6, q7, ⟨V'.cls, v3, V', v1, rfl, by rw [v4, e, hlen], K4, fun i hi => ?_, fun i hi => ?_⟩, q9⟩, hl, hc, by rw [hs, e]⟩
  · have hi' : i < cs.length := by omega
    rw [v5 i (by omega), hcv i hi']; simp [List.getD_eq_getElem?_getD, hi']
  · have hi' : i < cs.length := by omega
    simp only [List.getD_eq_getElem?_getD, List.getElem?_map, List.getElem?_eq_getElem hi', Option.map_some, Option.getD_some]
    exact fits_lo8 _
end StrChars.Road
namespace StrChars.Road
open Jvm Sem ClassFile Op Lib Jvm.Stand Jvm.Free Jvm.Free.XT
/-- WHAT COMES BACK, in the writer's own shape -/
def QV (Z : State) (x : Addr) (N : Int32) (bs : List Int32) (h : Heap) (n0 : Nat) (v : Option Value) (h' : Heap) (L : List Loc) : Prop := v = none ∧ RoadKit.Fr n0 L ∧ RoadKit.Keep h h' [x] ∧ RoadKit.Exa Z h' x ST ∧ RoadKit.Fld Z h' x ST "coder" "B" (.int 0) ∧
  ∃ (t : Addr) (kb : ClassId), n0 ≤ t ∧ h.size ≤ t ∧ ¬ t = x ∧ RoadKit.Fld Z h' x ST "value" "[B" (.ref t) ∧ RoadKit.Arv Z h' t kb .byte N (bs.map Value.int) (.int 0)
/-- **new String(chars) AT A CALL, FOR THE WRITER**: a char[] of n known ints, each 0 to 255 -/
theorem backV {p : Program} {l : Launch} {e : Env} {R : Room} {s : State} {args : Array Value} {below : List Frame} {len W : Nat} {Z : State} {a0 : Array Value} {h : Heap} (hZ : Z.Warmed39 s.vm) (hw : ∀ d ∈ words, d.before a0 Z = true) {kI : Nat} (wi : (Jvm.Cond.instantiable ST kI).before a0 Z = true)
    {x b : Addr} {kC : ClassId} {cs bs : List Int32} {d v0 c0 : Value} {z N : Int32} {n n0 : Nat} (hx0 : n0 ≤ x) (hh0 : n0 ≤ h.size) (E : RoadKit.Exa Z h x ST) (V : RoadKit.Fld Z h x ST "value" "[B" v0) (C : RoadKit.Fld Z h x ST "coder" "B" c0) (K : RoadKit.Arv Z h b kC .char N (cs.map Value.int) d) (S : RoadKit.Sta Z h ST "COMPACT_STRINGS" "Z" (.int z)) (hz : ¬ z = 0)
    (hn : cs.length = n) (hN : N = Int32.ofNat n) (l0 : 0 < n) (l2 : n ≤ 4000) (hp : ∀ c ∈ cs, ¬ c < 0 ∧ ¬ (255 : Int32) < c) (hb : bs = cs.map (fun c => c.toInt8.toInt32)) (hfr : 4 ≤ R.frames) (hlo : W + 65 ≤ R.locals) :
    Back l R p e below s args (⟨"java/lang/String", "<init>", "([C)V"⟩ : MethodName) len W (fun P a => a = #[.ref x, .ref b] ∧ P.U.heap = h ∧ P.cells + 1 ≤ R.cells ∧ P.slots + n ≤ R.slots)
      (fun P _ v B => ∃ L, QV Z x N bs h n0 v B.U.heap L ∧ B.locs = P.locs ++ L ∧ B.cells = P.cells + 1 ∧ B.slots = P.slots + n) := by
  subst hn hN hb
  refine Back.mono (backArv hZ hw wi E V C K S hz (n32 (by omega)) l0 (by omega) (fun c hc => (hp c hc).2) hfr hlo) (fun P a hp => hp) (fun P a v B hp hq => ?_)
  obtain ⟨L, ⟨q1, q2, q3, q4, q5, q6, q7, ⟨kb, v1, v2⟩, q9⟩, hl, hc, hs⟩ := hq
  exact ⟨L, ⟨q1, fun y hy => by rw [q2 y hy]; exact hx0, q3, q5, q7, h.size, kb, hh0, Nat.le_refl _, Nat.ne_of_gt E.lt, q6, by rw [List.map_map]; exact v2⟩, hl, hc, hs⟩
end StrChars.Road
namespace StrChars
open Jvm Sem ClassFile Op Lib Jvm.Stand Jvm.Free.XT Jvm.Free.ALB Jvm.Free.JM Jvm.Free
open Jvm.Lib.Cold (StaticIs)
def hi8 (x : Int32) : Int32 := lo8 (x >>> ((8 : Int32) &&& 31))
/-- what StringUTF16.getChar makes of two bytes -/
def pairCh (u v : Int32) : Int32 := (((u &&& 255) <<< ((0 : Int32) &&& 31)) ||| ((v &&& 255) <<< ((8 : Int32) &&& 31))).toUInt32.toUInt16.toUInt32.toInt32
theorem lo8_and (x : Int32) : (lo8 x &&& 255).toBitVec.toNat = x.toBitVec.toNat % 256 := by
  have h : (lo8 x).toBitVec = (x.toBitVec.signExtend 8).signExtend 32 := by rw [lo8, Int8.toBitVec_toInt32, Int32.toBitVec_toInt8]
  rw [Int32.toBitVec_and, BitVec.toNat_and, h]
  have e : ((x.toBitVec.signExtend 8).signExtend 32).toNat % 256 = x.toBitVec.toNat % 256 := by
    rw [BitVec.toNat_signExtend]
    have hlt := x.toBitVec.isLt
    simp only [BitVec.toNat_setWidth, BitVec.toNat_signExtend]
    split <;> split <;> omega
  rw [← e]
  exact Nat.and_two_pow_sub_one_eq_mod _ 8
theorem pair_says {c : Int32} (h0 : ¬ c < 0) (h1 : ¬ 65535 < c) : pairCh (lo8 c) (hi8 c) = c := by
  rw [Int32.lt_iff_toInt_lt] at h0 h1
  have e0 : (0 : Int32).toInt = 0 := rfl
  have e1 : (65535 : Int32).toInt = 65535 := rfl
  have hc : c.toInt = c.toBitVec.toNat := by
    have := c.toBitVec.isLt
    have e : c.toInt = c.toBitVec.toInt := rfl
    rw [e] at h0 h1
    rw [e]
    rw [BitVec.toInt_eq_toNat_cond] at h0 h1 ⊢
    split at h0 <;> split <;> omega
  have hn : c.toBitVec.toNat < 65536 := by omega
  have a1 := lo8_and c
  have a2 : (hi8 c &&& 255).toBitVec.toNat = c.toBitVec.toNat / 256 := by
    rw [hi8, lo8_and]
    have e : ((8 : Int32) &&& 31) = 8 := by decide
    rw [e, Int32.toBitVec_shiftRight]
    have e2 : ((8 : Int32).toBitVec.smod 32) = 8#32 := by decide
    rw [e2, BitVec.sshiftRight_eq', BitVec.toNat_sshiftRight_of_msb_false (by rw [BitVec.msb_eq_false_iff_two_mul_lt]; omega)]
    show c.toBitVec.toNat >>> 8 % 256 = _
    rw [Nat.shiftRight_eq_div_pow]
    omega
  unfold pairCh
  apply Int32.toBitVec_inj.mp
  apply BitVec.eq_of_toNat_eq
  have f0 : ((0 : Int32) &&& 31) = 0 := by decide
  have f8 : ((8 : Int32) &&& 31) = 8 := by decide
  rw [f0, f8]
  have g : (((lo8 c &&& 255) <<< (0 : Int32)) ||| ((hi8 c &&& 255) <<< (8 : Int32))).toBitVec.toNat = c.toBitVec.toNat := by
    rw [Int32.toBitVec_or, Int32.toBitVec_shiftLeft, Int32.toBitVec_shiftLeft]
    have s0 : ((0 : Int32).toBitVec.smod 32) = 0#32 := by decide
    have s8 : ((8 : Int32).toBitVec.smod 32) = 8#32 := by decide
    rw [s0, s8, BitVec.toNat_or]
    simp only [BitVec.shiftLeft_eq', BitVec.toNat_shiftLeft, a1, a2]
    show (c.toBitVec.toNat % 256) <<< 0 % 2 ^ 32 ||| (c.toBitVec.toNat / 256) <<< 8 % 2 ^ 32 = _
    rw [Nat.shiftLeft_zero, Nat.mod_eq_of_lt (show c.toBitVec.toNat % 256 < 2 ^ 32 by omega), Nat.mod_eq_of_lt (show (c.toBitVec.toNat / 256) <<< 8 < 2 ^ 32 by rw [Nat.shiftLeft_eq]; omega), Nat.or_comm, ← Nat.shiftLeft_add_eq_or_of_lt (by omega), Nat.shiftLeft_eq]
    omega
  show BitVec.toNat (((((lo8 c &&& 255) <<< (0 : Int32)) ||| ((hi8 c &&& 255) <<< (8 : Int32))).toBitVec.setWidth 16).setWidth 32) = _
  rw [BitVec.toNat_setWidth, BitVec.toNat_setWidth, g]
  omega
end StrChars
namespace StrChars
open Jvm Sem ClassFile Op Lib Jvm.Stand Jvm.Free.XT Jvm.Free.ALB Jvm.Free.JM Jvm.Free
open Jvm.Lib.Cold (StaticIs)
theorem narrow_ch {c : Int32} (h0 : ¬ c < 0) (h1 : ¬ 65535 < c) : narrow .char (.int c) = .int c := by
  have q : narrow .char (.int (pairCh (lo8 c) (hi8 c))) = .int (pairCh (lo8 c) (hi8 c)) := narrow_c _
  rwa [pair_says h0 h1] at q
end StrChars
end Jvm.Pilot.@@N@@
namespace Jvm.Pilot.@@N@@
open Jvm Jvm.ClassFile Sem Op Lib Jvm.Free Jvm.Stand Jvm.LawKit Jvm.RoadKit Bundle Jvm.Pilot.@@N@@.Jvm.D
theorem tw {a0 : Array Value} {Z : State} (hw : ∀ d ∈ tables_1, d.before a0 Z = true) (i : Nat) {d : Jvm.Cond} (h : tables_1[i]? = some d) : d.before a0 Z = true := hw d (List.mem_of_getElem? h)
theorem own_nat {j : Nat} (h : j < 2 ^ 31) : (Int32.ofNat j).toNatClampNeg = j := by
  have e : (Int32.ofNat j).toInt = (j : Int) := Int32.toInt_ofNat_of_lt h
  simp only [Int32.toNatClampNeg, e]; omega
theorem own_toInt {j : Nat} (h : j < 2 ^ 31) : (Int32.ofNat j).toInt = (j : Int) := Int32.toInt_ofNat_of_lt h
theorem own_nn {j : Nat} (h : j < 2 ^ 31) : ¬ Int32.ofNat j < 0 := fun q => by
  rw [Int32.lt_iff_toInt_lt, own_toInt h] at q
  have : (0 : Int32).toInt = 0 := by decide
  omega
theorem own_lt {i j : Nat} (hi : i < 2 ^ 31) (hj : j < 2 ^ 31) : Int32.ofNat i < Int32.ofNat j ↔ i < j := by
  rw [Int32.lt_iff_toInt_lt, own_toInt hi, own_toInt hj]; omega
theorem own_eqn {i j : Nat} (hi : i < 2 ^ 31) (hj : j < 2 ^ 31) : Int32.ofNat i = Int32.ofNat j ↔ i = j := by
  rw [← Int32.toInt_inj, own_toInt hi, own_toInt hj]; omega
theorem own_succ (j : Nat) : Int32.ofNat j + (1 : Int32) = Int32.ofNat (j + 1) := (Int32.ofNat_add j 1).symm
theorem own_getD {cs : List Int32} {j : Nat} (d : Value) (h : j < cs.length) (h2 : j < 2 ^ 31) : (cs.map Value.int).getD (Int32.ofNat j).toNatClampNeg d = .int (cs.getD j 0) := by
  rw [own_nat h2]
  simp [List.getD_eq_getElem?_getD, List.getElem?_map, List.getElem?_eq_getElem h]
theorem own_shl1 {j : Nat} (h : j < 2 ^ 30) : (Int32.ofNat j <<< ((1 : Int32) &&& 31)) = Int32.ofNat (2 * j) := by
  rw [← Int32.toInt_inj, Jvm.Kit.i32_shl (Int32.ofNat j) _ (k := 1) (by decide) (by rw [own_toInt (by omega)]; omega) (by rw [own_toInt (by omega)]; omega), own_toInt (by omega), own_toInt (by omega)]
  omega
theorem own_shr1 {j : Nat} (h : 2 * j < 2 ^ 31) : (Int32.ofNat (2 * j) >>> ((1 : Int32) &&& 31)) = Int32.ofNat j := by
  rw [← Int32.toInt_inj, Jvm.Kit.i32_shr (Int32.ofNat (2 * j)) _ (k := 1) (by decide), own_toInt h, own_toInt (by omega)]
  omega
theorem own_shr0 (c : Int32) : c >>> ((0 : Int32) &&& 31) = c := by
  rw [← Int32.toInt_inj, Jvm.Kit.i32_shr c _ (k := 0) (by decide)]
  omega
theorem own_i8 (x : Int32) : (x.toInt8.toInt32).toInt8.toInt32 = x.toInt8.toInt32 := by rw [Int8.toInt8_toInt32]
/-- the bytes of a text: the latin ones, with zeros behind -/
def latL (cs : List Int32) (j : Nat) : List Value := (cs.take j).map (fun c => Value.int (c.toInt8.toInt32)) ++ List.replicate (cs.length - j) (.int (0 : Int32))
theorem latL_zero (cs : List Int32) : latL cs 0 = List.replicate cs.length (.int (0 : Int32)) := by simp [latL]
theorem latL_full (cs : List Int32) : latL cs cs.length = cs.map (fun c => Value.int (c.toInt8.toInt32)) := by simp [latL]
theorem latL_len (cs : List Int32) {j : Nat} (h : j ≤ cs.length) : (latL cs j).length = cs.length := by simp [latL]; omega
theorem own_take_succ (cs : List Int32) {j : Nat} (h : j < cs.length) : cs.take (j + 1) = cs.take j ++ [cs.getD j 0] := by
  rw [List.take_add_one, List.getElem?_eq_getElem h, List.getD_eq_getElem?_getD, List.getElem?_eq_getElem h]; rfl
theorem latL_set (cs : List Int32) {j : Nat} (h : j < cs.length) : (latL cs j).set j (.int ((cs.getD j 0).toInt8.toInt32)) = latL cs (j + 1) := by
  unfold latL
  rw [own_take_succ cs h, List.map_append]
  obtain ⟨k, hk⟩ : ∃ k, cs.length - j = k + 1 := ⟨cs.length - j - 1, by omega⟩
  have hk2 : cs.length - (j + 1) = k := by omega
  have hl : ((cs.take j).map (fun c => Value.int (c.toInt8.toInt32))).length = j := by simp; omega
  rw [hk, hk2, List.replicate_succ, List.set_append_right _ _ (by omega), hl, Nat.sub_self]
  simp
/-- .. and as pairs of bytes -/
def u16 (cs : List Int32) : List Value := cs.flatMap (fun c => [.int (c.toInt8.toInt32), .int ((c >>> ((8 : Int32) &&& 31)).toInt8.toInt32)])
theorem u16_len (cs : List Int32) : (u16 cs).length = 2 * cs.length := by
  induction cs with
  | nil => rfl
  | cons a t ih => simp only [u16, List.flatMap_cons, List.length_append, List.length_cons, List.length_nil] at ih ⊢; omega
def u16L (cs : List Int32) (j : Nat) : List Value := u16 (cs.take j) ++ List.replicate (2 * (cs.length - j)) (.int (0 : Int32))
theorem u16L_zero (cs : List Int32) : u16L cs 0 = List.replicate (2 * cs.length) (.int (0 : Int32)) := by simp [u16L, u16]
theorem u16L_full (cs : List Int32) : u16L cs cs.length = u16 cs := by simp [u16L]
theorem u16L_len (cs : List Int32) {j : Nat} (h : j ≤ cs.length) : (u16L cs j).length = 2 * cs.length := by
  simp only [u16L, List.length_append, u16_len, List.length_take, List.length_replicate]; omega
theorem u16_app (a b : List Int32) : u16 (a ++ b) = u16 a ++ u16 b := by simp [u16]
theorem u16L_set (cs : List Int32) {j : Nat} (h : j < cs.length) : ((u16L cs j).set (2 * j) (.int ((cs.getD j 0).toInt8.toInt32))).set (2 * j + 1) (.int (((cs.getD j 0) >>> ((8 : Int32) &&& 31)).toInt8.toInt32)) = u16L cs (j + 1) := by
  unfold u16L
  rw [own_take_succ cs h, u16_app]
  obtain ⟨k, hk⟩ : ∃ k, cs.length - j = k + 1 := ⟨cs.length - j - 1, by omega⟩
  have hk2 : cs.length - (j + 1) = k := by omega
  have hl : (u16 (cs.take j)).length = 2 * j := by rw [u16_len]; simp; omega
  have e2 : 2 * (k + 1) = (2 * k + 1) + 1 := by omega
  rw [hk, hk2, e2, List.replicate_succ, List.replicate_succ, List.set_append_right _ _ (by omega), hl, Nat.sub_self, List.set_cons_zero, List.set_append_right _ _ (by omega), hl]
  have e3 : 2 * j + 1 - 2 * j = 1 := by omega
  rw [e3]
  simp [u16]
theorem u16_get (cs : List Int32) {j : Nat} (h : j < cs.length) : (u16 cs).getD (2 * j) (.int 0) = .int ((cs.getD j 0).toInt8.toInt32) ∧ (u16 cs).getD (2 * j + 1) (.int 0) = .int (((cs.getD j 0) >>> ((8 : Int32) &&& 31)).toInt8.toInt32) := by
  have e : cs = cs.take j ++ (cs.getD j 0 :: cs.drop (j + 1)) := by
    have h1 := List.take_append_drop j cs
    rw [List.drop_eq_getElem_cons h] at h1
    rw [List.getD_eq_getElem?_getD, List.getElem?_eq_getElem h]
    exact h1.symm
  have hl : (u16 (cs.take j)).length = 2 * j := by rw [u16_len]; simp; omega
  have e1 : u16 cs = u16 (cs.take j) ++ ([.int ((cs.getD j 0).toInt8.toInt32), .int (((cs.getD j 0) >>> ((8 : Int32) &&& 31)).toInt8.toInt32)] ++ u16 (cs.drop (j + 1))) := by
    rw [← List.append_assoc]
    conv => lhs; rw [e]
    rw [u16_app]
    simp only [u16, List.flatMap_cons, List.append_assoc]
  rw [e1]
  simp only [List.getD_eq_getElem?_getD]
  have e3 : 2 * j + 1 - 2 * j = 1 := by omega
  refine ⟨?_, ?_⟩
  · rw [List.getElem?_append_right (by omega), hl, Nat.sub_self]; rfl
  · rw [List.getElem?_append_right (by omega), hl, e3]; rfl
theorem own_decl {a0 : Array Value} {Z : State} {y : MethodName} {bytes : ByteArray} {ml : Nat} {ret : Option FieldType} (wi : (Cond.instanceMethod y).before a0 Z = true) (wc : (Cond.code y bytes ml ret).before a0 Z = true) : (Cond.declares y).before a0 Z = true := by
  obtain ⟨mk, methM, hn, hm, hs, -⟩ := Cond.instanceMethod_spec wi
  obtain ⟨m2, c2, q1, -, -, -, -, -, -, hsig⟩ := Cond.code_spec hn wc
  cases hm.symm.trans q1
  simp [Cond.before, Cond.holds, Cond.value, hn, hm, hs, hsig]
theorem own_nface {a0 : Array Value} {Z : State} {K : String} {x z y : MethodName} (ws : (Cond.selects K x z).before a0 Z = true) (hc : z.cls = y.cls) : NotFace Z y := fun r0 h0 => by
  obtain ⟨c2, r2, m2, q1, q2, q3, q4, kP, hkP, hkPi⟩ := Cond.selects_spec ws
  have e1 := findClass_of_methodNamed q3
  have e2 := findClass_of_methodNamed h0
  rw [hc, e2] at e1
  have e3 := Option.some.inj e1
  exact ⟨kP, by rw [e3]; exact hkP, hkPi⟩
theorem own_same {a0 : Array Value} {Z : State} {y : MethodName} (wi : (Cond.instanceMethod y).before a0 Z = true) (N : NotFace Z y) (hy : y.cls ≠ "java/lang/invoke/MethodHandle" ∧ y.cls ≠ "java/lang/invoke/VarHandle") : (Cond.sameMethod y.cls y.cls y.name y.desc).before a0 Z = true := by
  obtain ⟨mk, methM, hn, hm, hs, -⟩ := Cond.instanceMethod_spec wi
  have hf := State.methodFound?_of_named hn hy
  have hc := findClass_of_methodNamed hn
  obtain ⟨k, hk, hki⟩ := N _ hn
  have hn' : Z.methodNamed? { cls := y.cls, name := y.name, desc := y.desc } = some mk := hn
  simp [Cond.before, Cond.holds, Cond.value, hc, hf, hn', hk, hki]
theorem own_cpy {α : Type} (vs : List α) (d : α) {j n : Nat} (hj : j = 0) (hn : vs.length = n) : vs = (List.range n).map fun i => vs.getD (j + i) d := by
  subst hj hn
  apply List.ext_getElem?
  intro i
  by_cases h : i < vs.length
  · simp [List.getElem?_map, h, List.getD_eq_getElem?_getD]
  · simp [List.getElem?_map, h, Nat.le_of_not_lt h]
theorem own_padr {α : Type} (vs : List α) (d : α) {j k m : Nat} (hj : j = 0) : ∀ i, vs.getD i d = ((List.replicate m d).take j ++ vs ++ (List.replicate m d).drop k).getD i d := by
  intro i; subst hj
  simp only [List.take_zero, List.nil_append, List.drop_replicate, List.getD_eq_getElem?_getD]
  by_cases h : i < vs.length
  · rw [List.getElem?_append_left h]
  · rw [List.getElem?_append_right (by omega), List.getElem?_eq_none (by omega), List.getElem?_replicate]
    split <;> rfl
theorem own_c16 (x : Int32) : (x.toUInt32.toUInt16.toUInt32.toInt32).toUInt32.toUInt16.toUInt32.toInt32 = x.toUInt32.toUInt16.toUInt32.toInt32 := by
  have e1 : (x.toUInt32.toUInt16.toUInt32.toInt32).toUInt32 = x.toUInt32.toUInt16.toUInt32 := rfl
  rw [e1, UInt16.toUInt16_toUInt32]
def hiS (c : Int32) : Int32 := if ¬ c < (55296 : Int32) ∧ c < (56320 : Int32) then 1 else 0
def loS (c : Int32) : Int32 := if ¬ c < (56320 : Int32) ∧ c < (57344 : Int32) then 1 else 0
def jmax (a b : Int32) : Int32 := if a < b then b else a
def jmin (a b : Int32) : Int32 := if b < a then b else a
theorem own_add (a b : Nat) : Int32.ofNat a + Int32.ofNat b = Int32.ofNat (a + b) := (Int32.ofNat_add a b).symm
theorem own_subn {a b : Nat} (h : a ≤ b) (hb : b < 2 ^ 31) : ¬ (0 : Int32) < Int32.ofNat a - Int32.ofNat b := by
  have h0 : (0 : Int32).toInt = 0 := by decide
  rw [Int32.lt_iff_toInt_lt, Jvm.Kit.i32_sub (by rw [own_toInt (by omega), own_toInt hb]; omega) (by rw [own_toInt (by omega), own_toInt hb]; omega), own_toInt (by omega), own_toInt hb, h0]; omega
theorem own_z0 : (0 : Int32).toNatClampNeg = 0 := by decide
theorem own_jmin {a b : Nat} (h : a ≤ b) (hb : b < 2 ^ 31) : jmin (Int32.ofNat a) (Int32.ofNat b) = Int32.ofNat a := by
  rw [jmin, if_neg (fun q => by have := (own_lt hb (by omega)).mp q; omega)]
theorem own_jmin' {a b : Nat} (h : a < b) (hb : b < 2 ^ 31) : jmin (Int32.ofNat b) (Int32.ofNat a) = Int32.ofNat a := by
  rw [jmin, if_pos ((own_lt (by omega) hb).mpr h)]
theorem own_c255 {c : Int32} (r : ¬ c < 0 ∧ ¬ (255 : Int32) < c) : ¬ c < 0 ∧ ¬ (65535 : Int32) < c := ⟨r.1, fun q => r.2 (by
  have h5 : (255 : Int32).toInt = 255 := by decide
  have h6 : (65535 : Int32).toInt = 65535 := by decide
  rw [Int32.lt_iff_toInt_lt] at q ⊢; omega)⟩
theorem own_nc {c : Int32} (r : ¬ c < 0 ∧ ¬ (65535 : Int32) < c) : nar .char c = c := Value.int.inj (StrChars.narrow_ch r.1 r.2)
theorem own_fitc {c : Int32} (r : ¬ c < 0 ∧ ¬ (65535 : Int32) < c) : fits .char (.int c) = true := by
  have h := fits_nar_char c
  rw [own_nc r] at h; exact h
def prI (c d : Int32) : Int32 := if hiS c = 1 ∧ loS d = 1 then 1 else 0
def media : List Int32 := [97, 112, 112, 108, 105, 99, 97, 116, 105, 111, 110, 47, 120, 45, 119, 119, 119, 45, 102, 111, 114, 109, 45, 117, 114, 108, 101, 110, 99, 111, 100, 101, 100]
def ciF (p q : Int32) : Int32 := if p = q then 1 else if (p &&& 223) < 65 then 0 else if (90 : Int32) < (p &&& 223) ∧ ((p &&& 223) < 192 ∨ (222 : Int32) < (p &&& 223) ∨ (p &&& 223) = 215) then 0 else if (p &&& 223) = (q &&& 223) then 1 else 0
def wsC (c : Int32) : Int32 := if (¬ c < 9 ∧ ¬ (13 : Int32) < c) ∨ (¬ c < 28 ∧ ¬ (32 : Int32) < c) then 1 else 0
def wsB (b : Int32) : Bool := wsC (b &&& 255) == 1
def preL (l : List Int32) : List Int32 := l.takeWhile (fun b => b != 59)
def stripL (l : List Int32) : List Int32 := ((l.dropWhile wsB).reverse.dropWhile wsB).reverse
def allCI (l : List Int32) : Bool := (List.range 33).all fun j => ciF (l.getD j 0) (media.getD j 0) == 1
theorem allCI_iff (l : List Int32) : allCI l = true ↔ ∀ j, j < 33 → ciF (l.getD j 0) (media.getD j 0) = 1 := by simp [allCI, List.all_eq_true]
def eqR (l : List Int32) : Int32 := if l.length = 33 ∧ allCI l = true then 1 else 0
def isF (bs : List Int32) : Int32 := eqR (stripL (preL bs))
def sameR (c m : Int32) : Prop := c = m ∨ (¬ m < 97 ∧ ¬ (122 : Int32) < m ∧ c = m - 32)
instance (c m : Int32) : Decidable (sameR c m) := by unfold sameR; infer_instance
abbrev byt (c : Int32) : Int32 := c.toInt8.toInt32
abbrev lat (cs : List Int32) : List Int32 := cs.map (fun c => c.toInt8.toInt32)
theorem own_nat256 {c : Int32} (r : ¬ c < 0 ∧ ¬ (255 : Int32) < c) : ∃ k, k < 256 ∧ c = Int32.ofNat k := by
  have h0 : (0 : Int32).toInt = 0 := by decide
  have h5 : (255 : Int32).toInt = 255 := by decide
  have r1 := r.1; have r2 := r.2
  rw [Int32.lt_iff_toInt_lt] at r1 r2
  refine ⟨c.toInt.toNat, by omega, ?_⟩
  rw [← Int32.toInt_inj, Int32.toInt_ofNat_of_lt (by omega)]
  omega
theorem own_all256 {P : Int32 → Prop} (h : ∀ k, k < 256 → P (Int32.ofNat k)) {c : Int32} (r : ¬ c < 0 ∧ ¬ (255 : Int32) < c) : P c := by
  obtain ⟨k, hk, rfl⟩ := own_nat256 r; exact h k hk
theorem own_b1 {c : Int32} (r : ¬ c < 0 ∧ ¬ (255 : Int32) < c) : (byt c = 59 ↔ c = 59) ∧ (wsB (byt c) = true ↔ wsC c = 1) :=
  own_all256 (P := fun c => (byt c = 59 ↔ c = 59) ∧ (wsB (byt c) = true ↔ wsC c = 1)) (by decide +kernel) r
theorem own_ci {c : Int32} (r : ¬ c < 0 ∧ ¬ (255 : Int32) < c) : ∀ m ∈ media, (ciF (byt c) m = 1 ↔ sameR c m) :=
  own_all256 (P := fun c => ∀ m ∈ media, (ciF (byt c) m = 1 ↔ sameR c m)) (by decide +kernel) r
theorem own_samew {c : Int32} (r : ¬ c < 0 ∧ ¬ (255 : Int32) < c) : ∀ m ∈ media, sameR c m → ¬ byt c = 59 ∧ wsB (byt c) = false :=
  own_all256 (P := fun c => ∀ m ∈ media, sameR c m → ¬ byt c = 59 ∧ wsB (byt c) = false) (by decide +kernel) r
theorem own_medb : ∀ m ∈ media, byt m = m ∧ ¬ m = 59 ∧ wsB m = false := by decide +kernel
theorem own_medlen : media.length = 33 := by decide
theorem own_med1 : ∀ j, j < 33 → ciF (media.getD j 0) (media.getD j 0) = 1 := by decide +kernel
theorem own_miss : ∀ p, p < 33 → ∀ o, o < 5 → o ≠ 1 → ∃ j, j < 33 ∧ 1 ≤ o + j ∧ o + j ≤ 33 ∧ o + j - 1 ≠ p ∧ ¬ ciF (media.getD (o + j - 1) 0) (media.getD j 0) = 1 := by
  intro p hp o ho h1
  have h := (by decide +kernel : ∀ p, p < 33 → ∀ o, o < 5 → o ≠ 1 → ((List.range 33).any fun j => decide (1 ≤ o + j ∧ o + j ≤ 33 ∧ o + j - 1 ≠ p ∧ ¬ ciF (media.getD (o + j - 1) 0) (media.getD j 0) = 1)) = true) p hp o ho h1
  obtain ⟨j, hj, q⟩ := List.any_eq_true.mp h
  exact ⟨j, List.mem_range.mp hj, of_decide_eq_true q⟩
/-- the plain shape: what strip leaves -/
theorem own_strip {A u B : List Int32} (hA : ∀ x ∈ A, wsB x = true) (hu : ∀ x ∈ u, wsB x = false) (hn : u ≠ []) (hB : ∀ x ∈ B, wsB x = true) : stripL (A ++ (u ++ B)) = u := by
  have d1 : ∀ (A r : List Int32), (∀ x ∈ A, wsB x = true) → (A ++ r).dropWhile wsB = r.dropWhile wsB := by
    intro A r h
    induction A with
    | nil => rfl
    | cons a t ih => rw [List.cons_append, List.dropWhile_cons_of_pos (h a (List.mem_cons_self ..))]; exact ih fun x hx => h x (List.mem_cons_of_mem _ hx)
  have d2 : ∀ (u r : List Int32), (∀ x ∈ u, wsB x = false) → u ≠ [] → (u ++ r).dropWhile wsB = u ++ r := by
    intro u r h hn
    cases u with
    | nil => exact absurd rfl hn
    | cons a t => rw [List.cons_append, List.dropWhile_cons_of_neg (by rw [h a (List.mem_cons_self ..)]; decide)]
  rw [stripL, d1 A _ hA, d2 u _ hu hn, List.reverse_append, d1 B.reverse _ (fun x hx => hB x (List.mem_reverse.mp hx))]
  have d3 := d2 u.reverse [] (fun x hx => hu x (List.mem_reverse.mp hx)) (by simpa using hn)
  rw [List.append_nil] at d3
  rw [d3, List.reverse_reverse]
theorem own_unstrip (l : List Int32) : ∃ A B, l = A ++ (stripL l ++ B) ∧ (∀ x ∈ A, wsB x = true) ∧ ∀ x ∈ B, wsB x = true := by
  refine ⟨l.takeWhile wsB, ((l.dropWhile wsB).reverse.takeWhile wsB).reverse, ?_, fun x hx => ?_, fun x hx => ?_⟩
  · rw [stripL, ← List.reverse_append, List.takeWhile_append_dropWhile, List.reverse_reverse, List.takeWhile_append_dropWhile]
  · exact List.all_eq_true.mp List.all_takeWhile x hx
  · exact List.all_eq_true.mp List.all_takeWhile x (List.mem_reverse.mp hx)
theorem own_pre (l : List Int32) : ∃ R, l = preL l ++ R ∧ (∀ x ∈ preL l, x ≠ 59) ∧ (R = [] ∨ ∃ t, R = 59 :: t) := by
  refine ⟨l.dropWhile (fun b => b != 59), List.takeWhile_append_dropWhile.symm, fun x hx => ?_, ?_⟩
  · have := List.all_eq_true.mp List.all_takeWhile x hx; simpa using this
  · induction l with
    | nil => exact Or.inl rfl
    | cons a t ih =>
      by_cases h : a = 59
      · subst h; exact Or.inr ⟨t, by simp⟩
      · rw [List.dropWhile_cons_of_pos (by simpa using h)]; exact ih
theorem own_preapp {a b : List Int32} (h : ∀ x ∈ a, x ≠ 59) : preL (a ++ b) = a ++ preL b := by
  induction a with
  | nil => rfl
  | cons x t ih =>
    have hx : (x != 59) = true := by simpa using h x (List.mem_cons_self ..)
    rw [preL, List.cons_append, List.takeWhile_cons_of_pos (p := fun b => b != 59) hx]
    exact congrArg (x :: ·) (ih fun y hy => h y (List.mem_cons_of_mem _ hy))

theorem own_eqR1 {l : List Int32} (h : ¬ eqR l = 0) : l.length = 33 ∧ ∀ j, j < 33 → ciF (l.getD j 0) (media.getD j 0) = 1 := by
  unfold eqR at h
  split at h
  · rename_i q; exact ⟨q.1, (allCI_iff l).mp q.2⟩
  · exact absurd rfl h
theorem own_eqR {l : List Int32} (h1 : l.length = 33) (h2 : ∀ j, j < 33 → ciF (l.getD j 0) (media.getD j 0) = 1) : eqR l = 1 := if_pos ⟨h1, (allCI_iff l).mpr h2⟩
theorem own_getset (cs : List Int32) {p j : Nat} (c : Int32) (hj : j < cs.length) : (lat (cs.set p c)).getD j 0 = if j = p then byt c else byt (cs.getD j 0) := by
  simp only [lat, List.getD_eq_getElem?_getD, List.getElem?_map, List.getElem?_set, byt]
  by_cases h : p = j
  · subst h; simp [hj]
  · simp [h, Ne.symm h, hj]
theorem own_memset {cs : List Int32} {p : Nat} {c x : Int32} (h : x ∈ lat (cs.set p c)) : x = byt c ∨ ∃ m ∈ cs, x = byt m := by
  obtain ⟨y, hy, rfl⟩ := List.mem_map.mp h
  rcases List.mem_or_eq_of_mem_set hy with q | q
  · exact Or.inr ⟨y, q, rfl⟩
  · exact Or.inl (q ▸ rfl)
theorem own_medget {j : Nat} (h : j < 33) : media.getD j 0 ∈ media ∧ byt (media.getD j 0) = media.getD j 0 := by
  have hm : media.getD j 0 ∈ media := by
    rw [List.getD_eq_getElem?_getD, List.getElem?_eq_getElem (by rw [own_medlen]; exact h)]
    exact List.getElem_mem _
  exact ⟨hm, (own_medb _ hm).1⟩
theorem own_setci {p : Nat} {c : Int32} (r : ¬ c < 0 ∧ ¬ (255 : Int32) < c) (hp : p < 33) (hs : sameR c (media.getD p 0)) : (∀ j, j < 33 → ciF ((lat (media.set p c)).getD j 0) (media.getD j 0) = 1) ∧ ∀ x ∈ lat (media.set p c), ¬ x = 59 ∧ wsB x = false := by
  constructor
  · intro j hj
    rw [own_getset media c (by rw [own_medlen]; exact hj)]
    by_cases h : j = p
    · subst h; rw [if_pos rfl]; exact (own_ci r _ (own_medget hj).1).mpr hs
    · rw [if_neg h, (own_medget hj).2]; exact own_med1 j hj
  · intro x hx
    rcases own_memset hx with rfl | ⟨m, hm, rfl⟩
    · exact own_samew r _ (own_medget hp).1 hs
    · rw [(own_medb m hm).1]; exact (own_medb m hm).2
theorem own_setback {p : Nat} {c : Int32} (r : ¬ c < 0 ∧ ¬ (255 : Int32) < c) (hp : p < 33) (h : ∀ j, j < 33 → ciF ((lat (media.set p c)).getD j 0) (media.getD j 0) = 1) : sameR c (media.getD p 0) := by
  have q := h p hp
  rw [own_getset media c (by rw [own_medlen]; exact hp), if_pos rfl] at q
  exact (own_ci r _ (own_medget hp).1).mp q
theorem own_ne {u : List Int32} (h : u.length = 33) : u ≠ [] := fun q => by rw [q] at h; cases h
theorem isF_0 {p : Nat} {c : Int32} (r : ¬ c < 0 ∧ ¬ (255 : Int32) < c) (hp : p < 33) : isF (lat (media.set p c)) = if sameR c (media.getD p 0) then 1 else 0 := by
  have hl : (lat (media.set p c)).length = 33 := by simp [own_medlen]
  by_cases hs : sameR c (media.getD p 0)
  · rw [if_pos hs]
    obtain ⟨h1, h2⟩ := own_setci r hp hs
    have e1 := own_preapp (a := lat (media.set p c)) (b := []) (fun x hx => (h2 x hx).1)
    have e2 := own_strip (A := []) (u := lat (media.set p c)) (B := []) (fun _ q => nomatch q) (fun x hx => (h2 x hx).2) (own_ne hl) (fun _ q => nomatch q)
    rw [List.append_nil] at e1
    have e3 : preL ([] : List Int32) = [] := rfl
    rw [e3, List.append_nil] at e1
    rw [List.append_nil, List.nil_append] at e2
    rw [isF, e1, e2]
    exact own_eqR hl h1
  · rw [if_neg hs]
    by_cases h0 : isF (lat (media.set p c)) = 0
    · exact h0
    · exfalso
      obtain ⟨hL, hC⟩ := own_eqR1 h0
      obtain ⟨R, e1, -, -⟩ := own_pre (lat (media.set p c))
      obtain ⟨A, B, e2, -, -⟩ := own_unstrip (preL (lat (media.set p c)))
      have n1 := congrArg List.length e1
      have n2 := congrArg List.length e2
      rw [List.length_append, hl] at n1
      rw [List.length_append, List.length_append, hL] at n2
      have hR : R = [] := List.length_eq_zero_iff.mp (by omega)
      have hA : A = [] := List.length_eq_zero_iff.mp (by omega)
      have hB : B = [] := List.length_eq_zero_iff.mp (by omega)
      rw [hR, List.append_nil] at e1
      rw [hA, hB, List.append_nil, List.nil_append, ← e1] at e2
      rw [← e1, ← e2] at hC
      exact hs (own_setback r hp hC)
def restR (a b d : Int32) : Prop := a = 59 ∨ (wsC a = 1 ∧ (b = 59 ∨ (wsC b = 1 ∧ (d = 59 ∨ wsC d = 1))))
instance (a b d : Int32) : Decidable (restR a b d) := by unfold restR; infer_instance
theorem own_restL {a b d : Int32} (ra : ¬ a < 0 ∧ ¬ (255 : Int32) < a) (rb : ¬ b < 0 ∧ ¬ (255 : Int32) < b) (rd : ¬ d < 0 ∧ ¬ (255 : Int32) < d) : (∀ x ∈ preL [byt a, byt b, byt d], wsB x = true) ↔ restR a b d := by
  have e : ∀ (y : Int32) (t : List Int32), preL (y :: t) = if y = 59 then [] else y :: preL t := fun y t => by
    by_cases h : y = 59
    · simp [preL, h]
    · simp [preL, h]
  have e0 : preL ([] : List Int32) = [] := rfl
  rw [e, e, e, e0, restR, ← (own_b1 ra).1, ← (own_b1 rb).1, ← (own_b1 rd).1, ← (own_b1 ra).2, ← (own_b1 rb).2, ← (own_b1 rd).2]
  by_cases h1 : byt a = 59 <;> by_cases h2 : byt b = 59 <;> by_cases h3 : byt d = 59 <;> simp [h1, h2, h3]
theorem isF_1 {p : Nat} {c a0 a1 a2 a3 : Int32} (r : ¬ c < 0 ∧ ¬ (255 : Int32) < c) (r0 : ¬ a0 < 0 ∧ ¬ (255 : Int32) < a0) (r1 : ¬ a1 < 0 ∧ ¬ (255 : Int32) < a1) (r2 : ¬ a2 < 0 ∧ ¬ (255 : Int32) < a2) (r3 : ¬ a3 < 0 ∧ ¬ (255 : Int32) < a3) (hp : p < 33) :
    isF (byt a0 :: (lat (media.set p c) ++ [byt a1, byt a2, byt a3])) = if wsC a0 = 1 ∧ sameR c (media.getD p 0) ∧ restR a1 a2 a3 then 1 else 0 := by
  have hl : (lat (media.set p c)).length = 33 := by simp [own_medlen]
  by_cases hs : wsC a0 = 1 ∧ sameR c (media.getD p 0) ∧ restR a1 a2 a3
  · rw [if_pos hs]
    obtain ⟨h1, h2⟩ := own_setci r hp hs.2.1
    have hw : wsB (byt a0) = true := (own_b1 r0).2.mpr hs.1
    have h59 : byt a0 ≠ 59 := fun q => by rw [q] at hw; exact absurd hw (by decide)
    have e1 : preL (byt a0 :: (lat (media.set p c) ++ [byt a1, byt a2, byt a3])) = [byt a0] ++ (lat (media.set p c) ++ preL [byt a1, byt a2, byt a3]) := by
      rw [show byt a0 :: (lat (media.set p c) ++ [byt a1, byt a2, byt a3]) = ([byt a0] ++ lat (media.set p c)) ++ [byt a1, byt a2, byt a3] by simp, own_preapp (fun x hx => ?_), List.append_assoc]
      rcases List.mem_append.mp hx with q | q
      · rw [List.mem_singleton.mp q]; exact h59
      · exact (h2 x q).1
    rw [isF, e1, own_strip (fun x hx => by rw [List.mem_singleton.mp hx]; exact hw) (fun x hx => (h2 x hx).2) (own_ne hl) ((own_restL r1 r2 r3).mpr hs.2.2)]
    exact own_eqR hl h1
  · rw [if_neg hs]
    by_cases h0 : isF (byt a0 :: (lat (media.set p c) ++ [byt a1, byt a2, byt a3])) = 0
    · exact h0
    · exfalso
      obtain ⟨hL, hC⟩ := own_eqR1 h0
      generalize hl0 : byt a0 :: (lat (media.set p c) ++ [byt a1, byt a2, byt a3]) = l at hL hC
      obtain ⟨R, e1, f1, g1⟩ := own_pre l
      obtain ⟨A, B, e2, hA, hB⟩ := own_unstrip (preL l)
      generalize hst : stripL (preL l) = st at hL hC e2
      have e3 : l = A ++ (st ++ (B ++ R)) := by rw [e1, e2]; simp [List.append_assoc]
      have n : A.length + (B ++ R).length = 4 := by
        have := congrArg List.length e3
        rw [← hl0] at this
        simp only [List.length_cons, List.length_append, List.length_nil, hl, hL] at this ⊢
        omega
      have get : ∀ j, j < 33 → st.getD j 0 = l.getD (A.length + j) 0 := by
        intro j hj
        rw [e3, List.getD_eq_getElem?_getD, List.getD_eq_getElem?_getD, List.getElem?_append_right (by omega), Nat.add_sub_cancel_left, List.getElem?_append_left (by omega)]
      have mid : ∀ i, 1 ≤ i → i ≤ 33 → l.getD i 0 = (lat (media.set p c)).getD (i - 1) 0 := by
        intro i h1 h2
        obtain ⟨k, rfl⟩ : ∃ k, i = k + 1 := ⟨i - 1, by omega⟩
        rw [← hl0, List.getD_eq_getElem?_getD, List.getElem?_cons_succ, List.getElem?_append_left (by omega), List.getD_eq_getElem?_getD]; rfl
      have ho : A.length = 1 := by
        by_cases ho : A.length = 1
        · exact ho
        · exfalso
          obtain ⟨j, hj, q1, q2, q3, q4⟩ := own_miss p hp A.length (by omega) ho
          have q := hC j hj
          rw [get j hj, mid _ q1 q2, own_getset media c (by rw [own_medlen]; omega), if_neg q3, (own_medget (by omega)).2] at q
          exact q4 q
      obtain ⟨x, rfl⟩ := List.length_eq_one_iff.mp ho
      rw [← hl0] at e3
      have e4 := List.cons.inj e3
      have e6 : lat (media.set p c) ++ [byt a1, byt a2, byt a3] = st ++ (B ++ R) := e4.2
      have e5 := List.append_inj e6 (by rw [hl, hL])
      have hx : x = byt a0 := e4.1.symm
      have hws : wsC a0 = 1 := (own_b1 r0).2.mp (hx ▸ hA x (List.mem_singleton_self x))
      have hC' : ∀ j, j < 33 → ciF ((lat (media.set p c)).getD j 0) (media.getD j 0) = 1 := by rw [e5.1]; exact hC
      have hB' : preL [byt a1, byt a2, byt a3] = B := by
        rw [e5.2, own_preapp (fun y hy => f1 y (by rw [e2]; simp [hy]))]
        rcases g1 with rfl | ⟨t, rfl⟩
        · rw [show preL ([] : List Int32) = [] from rfl, List.append_nil]
        · rw [show preL (59 :: t) = [] by simp [preL], List.append_nil]
      exact hs ⟨hws, own_setback r hp hC', (own_restL r1 r2 r3).mp (by rw [hB']; exact hB)⟩

def aN (l : List Int32) : Nat := (l.takeWhile wsB).length
def bN (l : List Int32) : Nat := l.length - (l.reverse.takeWhile wsB).length
theorem own_twget {P : Int32 → Bool} (l : List Int32) : (∀ j, j < (l.takeWhile P).length → P (l.getD j 0) = true) ∧ (l.takeWhile P).length ≤ l.length ∧ ((l.takeWhile P).length < l.length → P (l.getD (l.takeWhile P).length 0) = false) ∧ l.takeWhile P = l.take (l.takeWhile P).length ∧ l.dropWhile P = l.drop (l.takeWhile P).length := by
  induction l with
  | nil => simp
  | cons a t ih =>
    obtain ⟨h1, h2, h3, h4, h5⟩ := ih
    by_cases h : P a = true
    · rw [List.takeWhile_cons_of_pos h, List.dropWhile_cons_of_pos h]
      refine ⟨fun j hj => ?_, by simpa using h2, fun q => ?_, ?_, ?_⟩
      · cases j with
        | zero => exact h
        | succ j => exact h1 j (by simpa using hj)
      · exact h3 (by simpa using q)
      · simpa using h4
      · simpa using h5
    · rw [List.takeWhile_cons_of_neg h, List.dropWhile_cons_of_neg h]
      exact ⟨fun j hj => absurd hj (Nat.not_lt_zero _), Nat.zero_le _, fun _ => by simpa using h, rfl, rfl⟩
theorem own_prefacts (l : List Int32) : (∀ j, j < (preL l).length → ¬ l.getD j 0 = 59) ∧ (preL l).length ≤ l.length ∧ ((preL l).length < l.length → l.getD (preL l).length 0 = 59) ∧ preL l = l.take (preL l).length := by
  obtain ⟨h1, h2, h3, h4, -⟩ := own_twget (P := fun b => b != 59) l
  exact ⟨fun j hj => by simpa using h1 j hj, h2, fun q => by have := h3 q; simpa [preL] using this, h4⟩
theorem own_afacts (l : List Int32) : (∀ j, j < aN l → wsB (l.getD j 0) = true) ∧ aN l ≤ l.length ∧ (aN l < l.length → wsB (l.getD (aN l) 0) = false) := by
  obtain ⟨h1, h2, h3, -, -⟩ := own_twget (P := wsB) l; exact ⟨h1, h2, h3⟩
theorem own_revget (l : List Int32) {j : Nat} (h : j < l.length) : l.reverse.getD j 0 = l.getD (l.length - 1 - j) 0 := by
  rw [List.getD_eq_getElem?_getD, List.getElem?_reverse h, List.getD_eq_getElem?_getD]
theorem own_bfacts (l : List Int32) : (∀ j, bN l ≤ j → j < l.length → wsB (l.getD j 0) = true) ∧ bN l ≤ l.length ∧ (0 < bN l → wsB (l.getD (bN l - 1) 0) = false) := by
  obtain ⟨h1, h2, h3, -, -⟩ := own_twget (P := wsB) l.reverse
  rw [List.length_reverse] at h2 h3
  refine ⟨fun j q1 q2 => ?_, Nat.sub_le .., fun q => ?_⟩
  · have := h1 (l.length - 1 - j) (by unfold bN at q1; omega)
    rw [own_revget l (by omega), show l.length - 1 - (l.length - 1 - j) = j by omega] at this
    exact this
  · have := h3 (by unfold bN at q; omega)
    rw [own_revget l (by unfold bN at q; omega), show l.length - 1 - (l.reverse.takeWhile wsB).length = bN l - 1 by unfold bN; omega] at this
    exact this
theorem own_ab (l : List Int32) (h : aN l < l.length) : aN l < bN l := by
  obtain ⟨-, -, h3⟩ := own_afacts l
  obtain ⟨q1, q2, -⟩ := own_bfacts l
  apply Nat.lt_of_not_le
  intro q
  have := q1 (aN l) q h
  rw [h3 h] at this; cases this
theorem own_stripeq (l : List Int32) : stripL l = (l.drop (aN l)).take (bN l - aN l) := by
  obtain ⟨A, B, e, hA, hB⟩ := own_unstrip l
  obtain ⟨-, -, -, -, h5⟩ := own_twget (P := wsB) l
  by_cases h : aN l < l.length
  · obtain ⟨g1, g2, g3, g4, g5⟩ := own_twget (P := wsB) (l.dropWhile wsB).reverse
    have e0 : stripL l = (l.drop (aN l)).take ((l.drop (aN l)).length - ((l.dropWhile wsB).reverse.takeWhile wsB).length) := by
      have e9 : l.dropWhile wsB = l.drop (aN l) := h5
      rw [stripL, g5, List.drop_reverse, List.reverse_reverse, e9]
    rw [e0]
    congr 1
    -- the whitespace behind is all of the reverse's
    have hr : ((l.dropWhile wsB).reverse.takeWhile wsB) = l.reverse.takeWhile wsB := by
      have e1 : l.reverse = (l.dropWhile wsB).reverse ++ (l.takeWhile wsB).reverse := by rw [← List.reverse_append, List.takeWhile_append_dropWhile]
      have key : ∀ (u v : List Int32), (∃ x ∈ u, wsB x = false) → (u ++ v).takeWhile wsB = u.takeWhile wsB := by
        intro u v
        induction u with
        | nil => rintro ⟨x, hx, -⟩; cases hx
        | cons y t ih =>
          rintro ⟨x, hx, hw⟩
          by_cases hy : wsB y = true
          · rw [List.cons_append, List.takeWhile_cons_of_pos hy, List.takeWhile_cons_of_pos hy]
            rcases List.mem_cons.mp hx with rfl | hx
            · rw [hy] at hw; cases hw
            · rw [ih ⟨x, hx, hw⟩]
          · rw [List.cons_append, List.takeWhile_cons_of_neg hy, List.takeWhile_cons_of_neg hy]
      rw [e1, key]
      refine ⟨l.getD (aN l) 0, ?_, (own_afacts l).2.2 h⟩
      rw [List.mem_reverse, h5, List.getD_eq_getElem?_getD, List.getElem?_eq_getElem h]
      exact List.mem_drop_iff_getElem.mpr ⟨0, by simpa [aN] using h, by simp [aN]⟩
    rw [hr, List.length_drop]
    unfold bN aN
    omega
  · have ha : aN l = l.length := Nat.le_antisymm (own_afacts l).2.1 (Nat.le_of_not_lt h)
    have e1 : l.dropWhile wsB = [] := by rw [h5, show (l.takeWhile wsB).length = l.length from ha]; exact List.drop_length
    rw [stripL, e1, ha, List.drop_length]; simp
def tabA : List Int32 := [1207963663, 1207963663, 1207963663, 1207963663, 1207963663, 1207963663, 1207963663, 1207963663, 1207963663, 1476411407, 1342193679, 1476411407, 1610629135, 1342193679, 1207963663, 1207963663, 1207963663, 1207963663, 1207963663, 1207963663, 1207963663, 1207963663, 1207963663, 1207963663, 1207963663, 1207963663, 1207963663, 1207963663, 1342193679, 1342193679, 1342193679, 1476411407, 1610629132, 1744830488, 1744830488, 671088664, 671113242, 671088664, 1744830488, 1744830488, (-402653163), (-402653162), 1744830488, 536870937, 939524120, 536870932, 939524120, 939524120, 402667017, 402667017, 402667017, 402667017, 402667017, 402667017, 402667017, 402667017, 402667017, 402667017, 939524120, 1744830488, (-402653159), 1744830489, (-402653159), 1744830488, 1744830488, 8552417, 8552417, 8552417, 8552417, 8552417, 8552417, 8552417, 8552417, 8552417, 8552417, 8552417, 8552417, 8552417, 8552417, 8552417, 8552417, 8552417, 8552417, 8552417, 8552417, 8552417, 8552417, 8552417, 8552417, 8552417, 8552417, (-402653163), 1744830488, (-402653162), 1744830491, 1744850967, 1744830491, 8486882, 8486882, 8486882, 8486882, 8486882, 8486882, 8486882, 8486882, 8486882, 8486882, 8486882, 8486882, 8486882, 8486882, 8486882, 8486882, 8486882, 8486882, 8486882, 8486882, 8486882, 8486882, 8486882, 8486882, 8486882, 8486882, (-402653163), 1744830489, (-402653162), 1744830489, 1207963663, 1207963663, 1207963663, 1207963663, 1207963663, 1207963663, 1342181391, 1207963663, 1207963663, 1207963663, 1207963663, 1207963663, 1207963663, 1207963663, 1207963663, 1207963663, 1207963663, 1207963663, 1207963663, 1207963663, 1207963663, 1207963663, 1207963663, 1207963663, 1207963663, 1207963663, 1207963663, 1207963663, 1207963663, 1207963663, 1207963663, 1207963663, 1207963663, 939524108, 1744830488, 671113242, 671113242, 671113242, 671113242, 1744830492, 1744830488, 1744830491, 1744830492, 28677, (-402653155), 1744830489, 1207963664, 1744830492, 1744830491, 671088668, 671088665, 402654731, 402654731, 1744830491, 134049794, 1744830488, 1744830488, 1744830491, 402654475, 28677, (-402653154), 1744832523, 1744832523, 1744832523, 1744830488, 8548353, 8548353, 8548353, 8548353, 8548353, 8548353, 8548353, 8548353, 8548353, 8548353, 8548353, 8548353, 8548353, 8548353, 8548353, 8548353, 8548353, 8548353, 8548353, 8548353, 8548353, 8548353, 8548353, 1744830489, 8548353, 8548353, 8548353, 8548353, 8548353, 8548353, 8548353, 134049794, 8482818, 8482818, 8482818, 8482818, 8482818, 8482818, 8482818, 8482818, 8482818, 8482818, 8482818, 8482818, 8482818, 8482818, 8482818, 8482818, 8482818, 8482818, 8482818, 8482818, 8482818, 8482818, 8482818, 1744830489, 8482818, 8482818, 8482818, 8482818, 8482818, 8482818, 8482818, 102592514]
theorem own_tab {c : Int32} (r : ¬ c < 0 ∧ ¬ (255 : Int32) < c) : ((tabA.getD c.toNatClampNeg 0 &&& (28672 : Int32)) = (16384 : Int32) ↔ wsC c = 1) ∧ c.toNatClampNeg < 256 :=
  own_all256 (P := fun c => ((tabA.getD c.toNatClampNeg 0 &&& (28672 : Int32)) = (16384 : Int32) ↔ wsC c = 1) ∧ c.toNatClampNeg < 256) (by decide +kernel) r
theorem own_ws01 (c : Int32) : wsC c = 0 ∨ wsC c = 1 := by unfold wsC; split <;> simp
theorem own_wsB {b : Int32} : wsB b = true ↔ wsC (b &&& 255) = 1 := by simp [wsB]
theorem own_wsBf {b : Int32} : wsB b = false ↔ wsC (b &&& 255) = 0 := by
  rcases own_ws01 (b &&& 255) with h | h <;> simp [wsB, h]
theorem own_med255 : ∀ j, j < 33 → (media.getD j 0 &&& 255) = media.getD j 0 := by decide +kernel
theorem own_medr : ∀ j, j < 33 → ¬ media.getD j 0 < 0 ∧ ¬ (255 : Int32) < media.getD j 0 := by decide +kernel
theorem own_subN {a b : Nat} (h : a ≤ b) : Int32.ofNat b - Int32.ofNat a = Int32.ofNat (b - a) := by
  have e : Int32.ofNat b = Int32.ofNat (b - a) + Int32.ofNat a := by rw [own_add, Nat.sub_add_cancel h]
  rw [e, Int32.add_sub_cancel]
theorem own_pred {i : Nat} (h : 0 < i) : Int32.ofNat i + (-1 : Int32) = Int32.ofNat (i - 1) := by
  have e : Int32.ofNat i = Int32.ofNat (i - 1) + (1 : Int32) := by rw [own_succ, Nat.sub_add_cancel h]
  rw [e, Int32.add_assoc, show (1 : Int32) + (-1) = 0 by decide, Int32.add_zero]
theorem own_jmin2 {a b : Nat} (h : a ≤ b) (hb : b < 2 ^ 31) : jmin (Int32.ofNat b) (Int32.ofNat a) = Int32.ofNat a := by
  rcases Nat.lt_or_ge a b with q | q
  · exact own_jmin' q hb
  · rw [Nat.le_antisymm h q, jmin]; split <;> rfl
theorem own_cpyB (bs : List Int32) (d : Value) {F N f n : Nat} (hF : F = f) (hN : N = n) (h : f + n ≤ bs.length) : ((bs.drop f).take n).map Value.int = (List.range N).map fun i => (bs.map Value.int).getD (F + i) d := by
  subst hF hN
  apply List.ext_getElem?
  intro i
  by_cases hi : i < N
  · simp only [List.getElem?_map, List.getElem?_take, if_pos hi, List.getElem?_drop, List.getD_eq_getElem?_getD, List.getElem?_range hi, List.getElem?_eq_getElem (show F + i < bs.length by omega), Option.map_some, Option.getD_some]
  · simp [List.getElem?_map, hi]; omega
theorem own_dtl {bs : List Int32} {f n : Nat} (h : f + n ≤ bs.length) : ((bs.drop f).take n).length = n := by simp; omega
theorem own_getDk {cs : List Int32} {k : Nat} (d : Value) (h : k < cs.length) : (cs.map Value.int).getD k d = .int (cs.getD k 0) := by
  simp [List.getD_eq_getElem?_getD, List.getElem?_map, List.getElem?_eq_getElem h]
theorem own_eq0 {n : Nat} (h : n < 2 ^ 31) (q : Int32.ofNat n = 0) : n = 0 := (own_eqn (j := 0) h (by decide)).mp q
theorem own_c255b (b : Int32) : ¬ (b &&& (255 : Int32)) < 0 ∧ ¬ (255 : Int32) < (b &&& (255 : Int32)) := by
  have e1 : (b &&& (255 : Int32)).toInt = b.toInt % 2 ^ 8 := Jvm.Kit.i32_mask b _ (k := 8) (by decide) (by decide)
  have h0 : (0 : Int32).toInt = 0 := by decide
  have h5 : (255 : Int32).toInt = 255 := by decide
  constructor
  · intro h; rw [Int32.lt_iff_toInt_lt] at h; omega
  · intro h; rw [Int32.lt_iff_toInt_lt] at h; omega
theorem own_lt256 {c : Int32} (r : ¬ c < 0 ∧ ¬ (255 : Int32) < c) : c < (256 : Int32) := by
  have h5 : (255 : Int32).toInt = 255 := by decide
  have h6 : (256 : Int32).toInt = 256 := by decide
  have := r.2
  rw [Int32.lt_iff_toInt_lt] at this ⊢; omega
theorem own_tablen : tabA.length = 256 := by decide +kernel
theorem own_byte (x : Int32) : ¬ (((x &&& (255 : Int32)).toUInt32.toUInt16.toUInt32.toInt32).toUInt32.toUInt16.toUInt32.toInt32) < 0 ∧ ¬ (255 : Int32) < (((x &&& (255 : Int32)).toUInt32.toUInt16.toUInt32.toInt32).toUInt32.toUInt16.toUInt32.toInt32) := by
  rw [i2c_mask x, i2c_mask x]
  have e1 : (x &&& (255 : Int32)).toInt = x.toInt % 2 ^ 8 := Jvm.Kit.i32_mask x _ (k := 8) (by decide) (by decide)
  have h0 : (0 : Int32).toInt = 0 := by decide
  have h5 : (255 : Int32).toInt = 255 := by decide
  constructor
  · intro h; rw [Int32.lt_iff_toInt_lt] at h; omega
  · intro h; rw [Int32.lt_iff_toInt_lt] at h; omega
theorem own_byte1 (x : Int32) : ¬ ((x &&& (255 : Int32)).toUInt32.toUInt16.toUInt32.toInt32) < 0 ∧ ¬ (255 : Int32) < ((x &&& (255 : Int32)).toUInt32.toUInt16.toUInt32.toInt32) := by
  have h := own_byte x
  rw [i2c_mask x, i2c_mask x] at h
  rw [i2c_mask x]; exact h
def upF (c : Int32) : Int32 := if c < 97 then c else if (122 : Int32) < c then c else c - 32
def cF (p q m : Int32) : Int32 := if (((p.toUInt32 >>> ((2 : Int32) &&& 31).toUInt32).toInt32) &&& (3 : Int32)) = 0 then m else if (((p.toUInt32 >>> ((2 : Int32) &&& 31).toUInt32).toInt32) &&& (3 : Int32)) = 1 then upF m else (q &&& (255 : Int32))
def smF (c m : Int32) : Int32 := if c = m then 1 else if m < 97 then 0 else if (122 : Int32) < m then 0 else if c = ((m - (32 : Int32)).toUInt32.toUInt16.toUInt32.toInt32) then 1 else 0
def rsF (a b d : Int32) : Int32 := if a = 59 then 1 else if wsC a = 0 then 0 else if b = 59 then 1 else if wsC b = 0 then 0 else if d = 59 then 1 else if wsC d = 0 then 0 else 1
def exF (a s r : Int32) : Int32 := if wsC a = 0 then 0 else if s = 0 then 0 else if r = 0 then 0 else 1
theorem own_upr : ∀ {c : Int32}, (¬ c < 0 ∧ ¬ (255 : Int32) < c) → (¬ upF c < 0 ∧ ¬ (255 : Int32) < upF c) ∧ (¬ c < 97 → ((c - (32 : Int32)).toUInt32.toUInt16.toUInt32.toInt32) = c - 32) := fun r =>
  own_all256 (P := fun c => (¬ upF c < 0 ∧ ¬ (255 : Int32) < upF c) ∧ (¬ c < 97 → ((c - (32 : Int32)).toUInt32.toUInt16.toUInt32.toInt32) = c - 32)) (by decide +kernel) r
theorem own_cFr {p q m : Int32} (r : ¬ m < 0 ∧ ¬ (255 : Int32) < m) : ¬ cF p q m < 0 ∧ ¬ (255 : Int32) < cF p q m := by
  unfold cF; split
  · exact r
  · split
    · exact (own_upr r).1
    · exact own_c255b q
theorem own_smF {c m : Int32} (r : ¬ m < 0 ∧ ¬ (255 : Int32) < m) : smF c m = if sameR c m then 1 else 0 := by
  unfold smF sameR
  by_cases h1 : c = m
  · simp [h1]
  · by_cases h2 : m < 97
    · simp [h1, h2]
    · by_cases h3 : (122 : Int32) < m
      · simp [h1, h2, h3]
      · rw [(own_upr r).2 h2]; simp [h1, h2, h3]
theorem own_rsF (a b d : Int32) : rsF a b d = if restR a b d then 1 else 0 := by
  unfold rsF restR
  rcases own_ws01 a with ha | ha <;> rcases own_ws01 b with hb | hb <;> rcases own_ws01 d with hd | hd <;> by_cases h1 : a = 59 <;> by_cases h2 : b = 59 <;> by_cases h3 : d = 59 <;> simp [ha, hb, hd, h1, h2, h3]
theorem own_exF {a c m x y z : Int32} (r : ¬ m < 0 ∧ ¬ (255 : Int32) < m) : exF a (smF c m) (rsF x y z) = if wsC a = 1 ∧ sameR c m ∧ restR x y z then 1 else 0 := by
  rw [own_smF r, own_rsF]
  unfold exF
  rcases own_ws01 a with ha | ha <;> by_cases h1 : sameR c m <;> by_cases h2 : restR x y z <;> simp [ha, h1, h2]
theorem own_sel33 (x : Int32) : ∃ i, i < 33 ∧ (x &&& (2147483647 : Int32)) % (33 : Int32) = Int32.ofNat i := by
  have e1 : (x &&& (2147483647 : Int32)).toInt = x.toInt % 2 ^ 31 := Jvm.Kit.i32_mask x _ (k := 31) (by decide) (by decide)
  have e2 : ((x &&& (2147483647 : Int32)) % (33 : Int32)).toInt = (x &&& (2147483647 : Int32)).toInt.tmod 33 := by rw [Int32.toInt_mod]; rfl
  have h0 : 0 ≤ (x &&& (2147483647 : Int32)).toInt := by omega
  rw [Int.tmod_eq_emod_of_nonneg h0] at e2
  refine ⟨((x &&& (2147483647 : Int32)) % (33 : Int32)).toInt.toNat, by omega, ?_⟩
  rw [← Int32.toInt_inj, own_toInt (by omega)]; omega
theorem own_eqR01 (l : List Int32) : nar .boolean (eqR l) = eqR l := by unfold eqR; split <;> decide
theorem own_striplen (l : List Int32) : (stripL l).length ≤ l.length := by
  obtain ⟨A, B, e, -, -⟩ := own_unstrip l
  have := congrArg List.length e
  rw [List.length_append, List.length_append] at this; omega
theorem own_medsetr {i : Nat} {c : Int32} (r : ¬ c < 0 ∧ ¬ (255 : Int32) < c) : ∀ x ∈ media.set i c, ¬ x < 0 ∧ ¬ (255 : Int32) < x := by
  intro x hx
  rcases List.mem_or_eq_of_mem_set hx with q | q
  · exact (by decide +kernel : ∀ x ∈ media, ¬ x < 0 ∧ ¬ (255 : Int32) < x) x q
  · exact q ▸ r
theorem own_setlen (i : Nat) (c : Int32) : (media.set i c).length = 33 := by rw [List.length_set]; exact own_medlen
theorem own_mset0 (i : Nat) (c : Int32) : (media.map Value.int).set i (.int c) = (media.set i c).map Value.int := List.map_set.symm
theorem own_mset1 (i : Nat) (c : Int32) (x : Value) (r : List Value) (h : i < 33) : (x :: (media.map Value.int ++ r)).set (1 + i) (.int c) = x :: ((media.set i c).map Value.int ++ r) := by
  rw [Nat.add_comm, List.set_cons_succ, List.set_append_left _ _ (by rw [List.length_map, own_medlen]; exact h), own_mset0]
theorem own_mset2 (k : Nat) (x v : Value) (l r : List Value) (h : l.length = 33) : (x :: (l ++ r)).set (34 + k) v = x :: (l ++ r.set k v) := by
  rw [show 34 + k = (33 + k) + 1 by omega, List.set_cons_succ, List.set_append_right _ _ (by omega), h, Nat.add_sub_cancel_left]
theorem own_l37 (x y z u : Value) (l : List Value) (h : l.length = 33) : (x :: (l ++ [y, z, u])).length = 37 := by simp [h]
abbrev EL1 : List (String × Nat) := [("com/example/brisk_hub/briskhub/http/Form", 27), ("com/example/brisk_hub/briskhub/http/FormIsFormPinLaw", 7), ("java/lang/StringLatin1", 151)]
abbrev Rm (f c s l : Nat) : Room := { frames := f, cells := c, slots := s, locals := l }
abbrev mN0 : MethodName := ⟨"java/lang/String", "coder", "()B"⟩
abbrev mN1 : MethodName := ⟨"java/lang/String", "isLatin1", "()Z"⟩
abbrev mN2 : MethodName := ⟨"java/lang/String", "length", "()I"⟩
abbrev mN3 : MethodName := ⟨"java/lang/Math", "max", "(II)I"⟩
abbrev mN4 : MethodName := ⟨"java/lang/Math", "min", "(II)I"⟩
abbrev mN5 : MethodName := ⟨"jdk/internal/util/Preconditions", "checkIndex", "(IILjava/util/function/BiFunction;)I"⟩
abbrev mN6 : MethodName := ⟨"java/lang/String", "checkIndex", "(II)V"⟩
abbrev mN7 : MethodName := ⟨"java/lang/StringLatin1", "getChar", "([BI)C"⟩
abbrev mN8 : MethodName := ⟨"java/lang/StringLatin1", "charAt", "([BI)C"⟩
abbrev mN9 : MethodName := ⟨"java/lang/String", "charAt", "(I)C"⟩
abbrev mN10 : MethodName := ⟨"java/lang/StringLatin1", "canEncode", "(I)Z"⟩
abbrev mN11 : MethodName := ⟨"java/lang/StringLatin1", "indexOfChar", "([BIII)I"⟩
abbrev mN12 : MethodName := ⟨"java/lang/StringLatin1", "indexOf", "([BIII)I"⟩
abbrev mN13 : MethodName := ⟨"java/lang/String", "indexOf", "(II)I"⟩
abbrev mN14 : MethodName := ⟨"java/lang/String", "indexOf", "(I)I"⟩
abbrev mN15 : MethodName := ⟨"jdk/internal/util/Preconditions", "checkFromToIndex", "(IIILjava/util/function/BiFunction;)I"⟩
abbrev mN16 : MethodName := ⟨"java/lang/String", "checkBoundsBeginEnd", "(III)V"⟩
abbrev mN17 : MethodName := ⟨"java/util/Arrays", "checkLength", "(II)V"⟩
abbrev mN18 : MethodName := ⟨"java/util/Arrays", "copyOfRangeByte", "([BII)[B"⟩
abbrev mN19 : MethodName := ⟨"java/util/Arrays", "copyOfRange", "([BII)[B"⟩
abbrev mN20 : MethodName := ⟨"java/lang/String", "<init>", "([BB)V"⟩
abbrev mN21 : MethodName := ⟨"java/lang/StringLatin1", "newString", "([BII)Ljava/lang/String;"⟩
abbrev mN22 : MethodName := ⟨"java/lang/String", "substring", "(II)Ljava/lang/String;"⟩
abbrev mN23 : MethodName := ⟨"java/lang/CharacterDataLatin1", "getProperties", "(I)I"⟩
abbrev mN24 : MethodName := ⟨"java/lang/CharacterDataLatin1", "isWhitespace", "(I)Z"⟩
abbrev mN25 : MethodName := ⟨"java/lang/StringLatin1", "indexOfNonWhitespace", "([B)I"⟩
abbrev mN26 : MethodName := ⟨"java/lang/StringLatin1", "lastIndexOfNonWhitespace", "([B)I"⟩
abbrev mN27 : MethodName := ⟨"java/lang/StringLatin1", "strip", "([B)Ljava/lang/String;"⟩
abbrev mN28 : MethodName := ⟨"java/lang/String", "strip", "()Ljava/lang/String;"⟩
abbrev mN29 : MethodName := ⟨"java/lang/CharacterDataLatin1", "equalsIgnoreCase", "(BB)Z"⟩
abbrev mN30 : MethodName := ⟨"java/lang/StringLatin1", "regionMatchesCI", "([BI[BII)Z"⟩
abbrev mN31 : MethodName := ⟨"java/lang/String", "regionMatches", "(ZILjava/lang/String;II)Z"⟩
abbrev mN32 : MethodName := ⟨"java/lang/String", "equalsIgnoreCase", "(Ljava/lang/String;)Z"⟩
abbrev mN33 : MethodName := ⟨"com/example/brisk_hub/briskhub/http/Form", "isForm", "(Ljava/lang/String;)Z"⟩
abbrev mN34 : MethodName := ⟨"com/example/brisk_hub/briskhub/http/FormIsFormPinLaw", "ws", "(C)Z"⟩
abbrev mN35 : MethodName := ⟨"com/example/brisk_hub/briskhub/http/FormIsFormPinLaw", "upper", "(C)C"⟩
abbrev mN36 : MethodName := ⟨"java/lang/String", "<init>", "([C)V"⟩
abbrev SAD (Z : State) : Prop := Sta Z Z.heap "java/lang/StringUTF16" "$assertionsDisabled" "Z" (.int (1 : Int32))
abbrev SHI (Z : State) : Prop := Sta Z Z.heap "java/lang/StringUTF16" "HI_BYTE_SHIFT" "I" (.int (0 : Int32))
abbrev SLO (Z : State) : Prop := Sta Z Z.heap "java/lang/StringUTF16" "LO_BYTE_SHIFT" "I" (.int (8 : Int32))
abbrev SCS (Z : State) (c : Int32) : Prop := Sta Z Z.heap "java/lang/String" "COMPACT_STRINGS" "Z" (.int c)

abbrev SFM (Z : State) (v : Value) : Prop := Sta Z Z.heap "jdk/internal/util/Preconditions" "SIOOBE_FORMATTER" "Ljava/util/function/BiFunction;" v
abbrev vI (i : Int32) : Slot := .val (.int i)
abbrev vR (a : Addr) : Slot := .val (.ref a)
abbrev SS (p : Program) (e : Env) (below : List Frame) (T : State) (m : MethodId) (pc : Nat) (ls : Array Slot) (st : List Value) (t : State) : Prop := Steps p.tables e below (T.setTop (mkF m pc ls st)) t
abbrev cD0 := jdk_42_method_152_code
abbrev cD1 := jdk_42_method_154_code
abbrev cD2 := jdk_42_method_54_code
abbrev cD3 := jdk_29_method_65_code
abbrev cD4 := jdk_29_method_69_code
abbrev cD5 := jdk_41_method_11_code
abbrev cD6 := jdk_42_method_155_code
abbrev cD7 := jdk_43_method_44_code
abbrev cD8 := jdk_43_method_2_code
abbrev cD9 := jdk_42_method_56_code
abbrev cD10 := jdk_43_method_4_code
abbrev cD11 := jdk_43_method_23_code
abbrev cD12 := jdk_43_method_22_code
abbrev cD13 := jdk_42_method_80_code
abbrev cD14 := jdk_42_method_79_code
abbrev cD15 := jdk_41_method_12_code
abbrev cD16 := jdk_42_method_158_code
abbrev cD17 := jdk_65_method_131_code
abbrev cD18 := jdk_65_method_133_code
abbrev cD19 := jdk_65_method_132_code
abbrev cD20 := jdk_42_method_151_code
abbrev cD21 := jdk_43_method_47_code
abbrev cD22 := jdk_42_method_92_code
abbrev cD23 := jdk_116_method_1_code
abbrev cD24 := jdk_116_method_26_code
abbrev cD25 := jdk_43_method_37_code
abbrev cD26 := jdk_43_method_38_code
abbrev cD27 := jdk_43_method_39_code
abbrev cD28 := jdk_42_method_114_code
abbrev cD29 := jdk_116_method_22_code
abbrev cD30 := jdk_43_method_30_code
abbrev cD31 := jdk_42_method_74_code
abbrev cD32 := jdk_42_method_70_code
abbrev cD33 := prog_5_method_2_code
abbrev cD34 := method_2_code
abbrev cD35 := method_3_code
abbrev HW (a0 : Array Value) (Z : State) : Prop := ∀ d ∈ tables_1, d.before a0 Z = true
abbrev DK (c : ByteArray) (p : Nat) (i : Instr) (n : Nat) : Prop := decode c p = .ok (i, n)
abbrev MF (l : Launch) (y : MethodName) (c : ByteArray) (k : Nat) (r : Option FieldType) (ws : List Jvm.Cond) (R : Room) (Z : State) (A : Array Value) (h0 : Heap) (Q : Option Value → Heap → List Loc → Prop) : Prop := MetFree l y (head1 (Jvm.Cond.code y c k r :: ws) R) (fun a U => a = A ∧ Z.Warmed39 U.vm ∧ U.heap = h0) (fun _ _ _ _ _ => True) (fun _ U o U' => ∃ v L, o = .returned v ∧ Q v U'.heap L ∧ FrameEnd U o U' L R.cells R.slots)
theorem wL (n : Nat) : 2 * 0 + n ≤ n := by omega
theorem nvr {α : Type} {P : Prop} {o : Option α} {t : α} (h : o = some t) (q : o = none) : P := by rw [h] at q; cases q
abbrev SE (p : Program) (e : Env) (below : List Frame) (s : State) (m : MethodId) (A : Array Value) (n : Nat) (t : State) : Prop := Steps p.tables e below (s.setTop (entryFrame m A n)) t
set_option maxRecDepth 65536
set_option maxHeartbeats 40000000
theorem d16_0 : DK cD0 0 (.getstatic 38) 3 := by decide +kernel
theorem d16_3 : DK cD0 3 (.ifCond .eq 10) 3 := by decide +kernel
theorem d16_6 : DK cD0 6 (.aload_n 0) 1 := by decide +kernel
theorem d16_7 : DK cD0 7 (.getfield 15) 3 := by decide +kernel
theorem d16_10 : DK cD0 10 (.goto 4) 3 := by decide +kernel
theorem d16_14 : DK cD0 14 (.ireturn) 1 := by decide +kernel
theorem pn_1 : plainName "java/lang/String" = true := by first | (simp [plainName, overriddenIn]; done) | decide +kernel
theorem ef_rmCoderL (m : MethodId) (y0 : Addr) : entryFrame m #[(.ref y0)] 1 = (mkF m 0 #[vR y0] []) := by first | (simp [entryFrame, mkF, argsToLocals, Value.category]; done) | rfl
def Q_rmCoderL (Z : State) (a1 : Addr) (bs : List Int32) (t1 : Addr) (k1 : ClassId) (cs0 : Int32) (h0 : Heap) (n0 : Nat) (v : Option Value) (h : Heap) (L : List Loc) : Prop := v = some (.int 0) ∧ Fr n0 L ∧ h = h0
theorem rmCoderL (l : Launch) (Z : State) (a0 : Array Value) (hw : HW a0 Z) (ws : List Jvm.Cond) (a1 : Addr) (bs : List Int32) (t1 : Addr) (k1 : ClassId) (cs0 : Int32) (h0 : Heap) (n0 : Nat) (O0 : Old Z n0 h0) (S_CS : SCS Z cs0) (c_CS : ¬ (cs0 = (0 : Int32))) (E1 : Exa Z h0 a1 "java/lang/String") (F1 : Fld Z h0 a1 "java/lang/String" "value" "[B" (.ref t1)) (F2 : Fld Z h0 a1 "java/lang/String" "coder" "B" (.int 0)) (V1 : Arv Z h0 t1 k1 .byte (Int32.ofNat bs.length) (bs.map Value.int) (.int 0)) (hn : bs.length ≤ 40) :
  MF l mN0 jdk_42_method_152_code 1 (some .byte) ws (Rm 0 0 0 0) Z #[(.ref a1)] h0 (Q_rmCoderL Z a1 bs t1 k1 cs0 h0 n0) := by
 refine MetFree.of_bodySF (plainFor_of_name pn_1) hisR ?_
 intro p e s m args below meth c s₁ Bd hml0 hP hK
 obtain ⟨rfl, hZ, hh⟩ := hP
 have hx := Bd.exec
 have hby := Bd.bytes
 have hml : c.maxLocals = 1 := hml0
 have hown : s.vm.findClass "java/lang/String" = some m.cls := findClass_of_methodNamed Bd.named
 have X0 : Stand p l e (Rm 0 0 0 0) s m #[(.ref a1)] below meth c s₁ [] 0 0 := Stand.of_body Bd
 have e0 : s₁.heap = h0 := by rw [← hh, Bd.state]; rfl
 have N0 := Fr.nil n0
 have hn0 : n0 ≤ h0.size := O0.1 ▸ O0.2.1
 have pre0 : ∀ t, SS p e below s₁ m 0 #[vR a1] [] t → SE p e below s₁ m #[(.ref a1)] 1 t := fun t k => castTop (ef_rmCoderL m a1) k
 obtain ⟨T101, X101, e101, st101⟩ := getS2 X0 hx hZ hown (host := "") (Or.inl (tw hw 19 rfl)) Via.refl e0 (Sta.ext O0.2 S_CS) (g := (mkF m 0 #[vR a1] [])) rfl (hb hby d16_0)
 obtain ⟨T102, X102, e102, st102⟩ := getF X101 hx hZ hown (host := "") (Or.inl (tw hw 20 rfl)) Via.refl e101 F2 (g := (mkF m 7 #[vR a1] [(.ref a1)])) rfl rfl (hb hby d16_7)
 obtain ⟨fs, hr, hrun, hended, hW, hsame⟩ := X102.leave (v := some (.int 0)) (nvr Bd.returns)
 refine ⟨_, _, pre0 _ ?_, hrun, hended, _, _, rfl, ?_, ⟨_, rfl⟩, hW, hsame.mono (by decide) (by decide)⟩
 ·skip
  show SS p e below s₁ m 0 #[vR a1] [] _
  refine st101 _ ?_
  refine XS.ifNo X101.here hx rfl (hb hby d16_3) rfl ((if0 _ _).trans (feq (c_CS : ¬ (cs0 = (0 : Int32)))).1) ?_
  refine XS.aloadN X101.here hx rfl (hb hby d16_6) rfl rfl ?_
  show SS p e below T101 m 7 #[vR a1] [(.ref a1)] _
  refine st102 _ ?_
  refine XS.goto X102.here hx rfl (pc0 := 10) (pc' := 14) rfl (hb hby d16_10) (by decide) (by decide) ?_
  show SS p e below T102 m 14 #[vR a1] [(.int 0)] _
  exact retN X102 hx (t := .byte) Bd.returns (by simp) (hb hby d16_14) hr
 ·show Q_rmCoderL Z a1 bs t1 k1 cs0 h0 n0 _ T102.heap _
  rw [e102]
  exact ⟨rfl, N0, rfl⟩
theorem d2_0 : DK cD1 0 (.getstatic 38) 3 := by decide +kernel
theorem d2_3 : DK cD1 3 (.ifCond .eq 14) 3 := by decide +kernel
theorem d2_6 : DK cD1 6 (.aload_n 0) 1 := by decide +kernel
theorem d2_7 : DK cD1 7 (.getfield 15) 3 := by decide +kernel
theorem d2_10 : DK cD1 10 (.ifCond .ne 7) 3 := by decide +kernel
theorem d2_13 : DK cD1 13 (.iconst 1) 1 := by decide +kernel
theorem d2_14 : DK cD1 14 (.goto 4) 3 := by decide +kernel
theorem d2_18 : DK cD1 18 (.ireturn) 1 := by decide +kernel
theorem ef_rmIsLat (m : MethodId) (y0 : Addr) : entryFrame m #[(.ref y0)] 1 = (mkF m 0 #[vR y0] []) := by first | (simp [entryFrame, mkF, argsToLocals, Value.category]; done) | rfl
def Q_rmIsLat (Z : State) (a1 : Addr) (bs : List Int32) (t1 : Addr) (k1 : ClassId) (cs0 : Int32) (h0 : Heap) (n0 : Nat) (v : Option Value) (h : Heap) (L : List Loc) : Prop := v = some (.int 1) ∧ Fr n0 L ∧ h = h0
theorem rmIsLat (l : Launch) (Z : State) (a0 : Array Value) (hw : HW a0 Z) (ws : List Jvm.Cond) (a1 : Addr) (bs : List Int32) (t1 : Addr) (k1 : ClassId) (cs0 : Int32) (h0 : Heap) (n0 : Nat) (O0 : Old Z n0 h0) (S_CS : SCS Z cs0) (c_CS : ¬ (cs0 = (0 : Int32))) (E1 : Exa Z h0 a1 "java/lang/String") (F1 : Fld Z h0 a1 "java/lang/String" "value" "[B" (.ref t1)) (F2 : Fld Z h0 a1 "java/lang/String" "coder" "B" (.int 0)) (V1 : Arv Z h0 t1 k1 .byte (Int32.ofNat bs.length) (bs.map Value.int) (.int 0)) (hn : bs.length ≤ 40) :
  MF l mN1 jdk_42_method_154_code 1 (some .boolean) ws (Rm 0 0 0 0) Z #[(.ref a1)] h0 (Q_rmIsLat Z a1 bs t1 k1 cs0 h0 n0) := by
 refine MetFree.of_bodySF (plainFor_of_name pn_1) hisR ?_
 intro p e s m args below meth c s₁ Bd hml0 hP hK
 obtain ⟨rfl, hZ, hh⟩ := hP
 have hx := Bd.exec
 have hby := Bd.bytes
 have hml : c.maxLocals = 1 := hml0
 have hown : s.vm.findClass "java/lang/String" = some m.cls := findClass_of_methodNamed Bd.named
 have X0 : Stand p l e (Rm 0 0 0 0) s m #[(.ref a1)] below meth c s₁ [] 0 0 := Stand.of_body Bd
 have e0 : s₁.heap = h0 := by rw [← hh, Bd.state]; rfl
 have N0 := Fr.nil n0
 have hn0 : n0 ≤ h0.size := O0.1 ▸ O0.2.1
 have pre0 : ∀ t, SS p e below s₁ m 0 #[vR a1] [] t → SE p e below s₁ m #[(.ref a1)] 1 t := fun t k => castTop (ef_rmIsLat m a1) k
 obtain ⟨T101, X101, e101, st101⟩ := getS2 X0 hx hZ hown (host := "") (Or.inl (tw hw 19 rfl)) Via.refl e0 (Sta.ext O0.2 S_CS) (g := (mkF m 0 #[vR a1] [])) rfl (hb hby d2_0)
 obtain ⟨T102, X102, e102, st102⟩ := getF X101 hx hZ hown (host := "") (Or.inl (tw hw 20 rfl)) Via.refl e101 F2 (g := (mkF m 7 #[vR a1] [(.ref a1)])) rfl rfl (hb hby d2_7)
 obtain ⟨fs, hr, hrun, hended, hW, hsame⟩ := X102.leave (v := some (.int 1)) (nvr Bd.returns)
 refine ⟨_, _, pre0 _ ?_, hrun, hended, _, _, rfl, ?_, ⟨_, rfl⟩, hW, hsame.mono (by decide) (by decide)⟩
 ·skip
  show SS p e below s₁ m 0 #[vR a1] [] _
  refine st101 _ ?_
  refine XS.ifNo X101.here hx rfl (hb hby d2_3) rfl ((if0 _ _).trans (feq (c_CS : ¬ (cs0 = (0 : Int32)))).1) ?_
  refine XS.aloadN X101.here hx rfl (hb hby d2_6) rfl rfl ?_
  show SS p e below T101 m 7 #[vR a1] [(.ref a1)] _
  refine st102 _ ?_
  refine XS.ifNo X102.here hx rfl (hb hby d2_10) rfl ((if0 _ _).trans (teq (by decide : (0 : Int32) = (0 : Int32))).2) ?_
  refine XS.iconst X102.here hx rfl (hb hby d2_13) ?_
  refine XS.goto X102.here hx rfl (pc0 := 14) (pc' := 18) rfl (hb hby d2_14) (by decide) (by decide) ?_
  show SS p e below T102 m 18 #[vR a1] [(.int 1)] _
  exact retN X102 hx (t := .boolean) Bd.returns (by simp) (hb hby d2_18) hr
 ·show Q_rmIsLat Z a1 bs t1 k1 cs0 h0 n0 _ T102.heap _
  rw [e102]
  exact ⟨rfl, N0, rfl⟩
theorem d15_0 : DK cD2 0 (.aload_n 0) 1 := by decide +kernel
theorem d15_1 : DK cD2 1 (.getfield 9) 3 := by decide +kernel
theorem d15_4 : DK cD2 4 (.arraylength) 1 := by decide +kernel
theorem d15_5 : DK cD2 5 (.aload_n 0) 1 := by decide +kernel
theorem d15_6 : DK cD2 6 (.invokevirtual 335) 3 := by decide +kernel
theorem d15_9 : DK cD2 9 (.ishr) 1 := by decide +kernel
theorem d15_10 : DK cD2 10 (.ireturn) 1 := by decide +kernel
theorem pd_15 : parseMethodDescriptor "()B" = some ⟨[], some .byte⟩ := by decide +kernel
theorem ef_rmLenL (m : MethodId) (y0 : Addr) : entryFrame m #[(.ref y0)] 1 = (mkF m 0 #[vR y0] []) := by first | (simp [entryFrame, mkF, argsToLocals, Value.category]; done) | rfl
def Q_rmLenL (Z : State) (a1 : Addr) (bs : List Int32) (t1 : Addr) (k1 : ClassId) (cs0 : Int32) (h0 : Heap) (n0 : Nat) (v : Option Value) (h : Heap) (L : List Loc) : Prop := v = some (.int (Int32.ofNat bs.length)) ∧ Fr n0 L ∧ h = h0
theorem rmLenL (l : Launch) (Z : State) (a0 : Array Value) (hw : HW a0 Z) (ws : List Jvm.Cond) (a1 : Addr) (bs : List Int32) (t1 : Addr) (k1 : ClassId) (cs0 : Int32) (h0 : Heap) (n0 : Nat) (O0 : Old Z n0 h0) (S_CS : SCS Z cs0) (c_CS : ¬ (cs0 = (0 : Int32))) (E1 : Exa Z h0 a1 "java/lang/String") (F1 : Fld Z h0 a1 "java/lang/String" "value" "[B" (.ref t1)) (F2 : Fld Z h0 a1 "java/lang/String" "coder" "B" (.int 0)) (V1 : Arv Z h0 t1 k1 .byte (Int32.ofNat bs.length) (bs.map Value.int) (.int 0)) (hn : bs.length ≤ 40) :
  MF l mN2 jdk_42_method_54_code 1 (some .int) ws (Rm 1 0 0 20) Z #[(.ref a1)] h0 (Q_rmLenL Z a1 bs t1 k1 cs0 h0 n0) := by
 refine MetFree.of_bodySF (plainFor_of_name pn_1) hisR ?_
 intro p e s m args below meth c s₁ Bd hml0 hP hK
 obtain ⟨rfl, hZ, hh⟩ := hP
 have hx := Bd.exec
 have hby := Bd.bytes
 have hml : c.maxLocals = 1 := hml0
 have hown : s.vm.findClass "java/lang/String" = some m.cls := findClass_of_methodNamed Bd.named
 have X0 : Stand p l e (Rm 1 0 0 20) s m #[(.ref a1)] below meth c s₁ [] 0 0 := Stand.of_body Bd
 have e0 : s₁.heap = h0 := by rw [← hh, Bd.state]; rfl
 have N0 := Fr.nil n0
 have hn0 : n0 ≤ h0.size := O0.1 ▸ O0.2.1
 have pre0 : ∀ t, SS p e below s₁ m 0 #[vR a1] [] t → SE p e below s₁ m #[(.ref a1)] 1 t := fun t k => castTop (ef_rmLenL m a1) k
 obtain ⟨T101, X101, e101, st101⟩ := getF X0 hx hZ hown (host := "") (Or.inl (tw hw 21 rfl)) Via.refl e0 F1 (g := (mkF m 1 #[vR a1] [(.ref a1)])) rfl rfl (hb hby d15_1)
 obtain ⟨cl102, Ar102, q102, S102, Nn102, H102, G102⟩ := id V1
 obtain ⟨cq103, kq103, q103a, q103b, q103c⟩ := isOf hZ e101 E1
 obtain ⟨_, _, ⟨T103, L103, k103, n103⟩, -, X103, ⟨Lc103, hQ103, l103, y103, z103⟩, st103⟩ := X101.virtualBack hx (y := mN0) (z := mN0) hown (mvT hZ (tw hw 75 rfl)) (mvT hZ (tw hw 76 rfl)) (notFace_of_selects (args := #[]) (mvT hZ (tw hw 78 rfl))) (mvT hZ (tw hw 78 rfl)) (mvT hZ (tw hw 77 rfl)) (by decide) (backOf (W := 1) (rmCoderL l Z a0 hw [] a1 bs t1 k1 cs0 h0 n0 O0 S_CS c_CS E1 F1 F2 V1 hn) hZ (tw hw 79 rfl) (tw hw 1 rfl) (by decide) (by decide)) q103a q103c (g := (mkF m 6 #[vR a1] [(.ref a1), (.int (Int32.ofNat bs.length))])) rfl (by rw [hml]; rfl) (Steps.refl _) (argsL := []) (rest := [(.int (Int32.ofNat bs.length))]) (lenOf pd_15 rfl) rfl (wL _) (hb hby d15_6) (fun _ _ => ⟨rfl, e101, (by decide : 0 + 0 ≤ _), (by decide : 0 + 0 ≤ _)⟩)
 dsimp only [Pt.U, Pt.locs, Pt.cells, Pt.slots] at X103 l103 y103 z103 st103 hQ103
 rw [l103] at X103
 subst y103 z103
 obtain ⟨rfl, N103q, H103⟩ := hQ103
 have N103 := Fr.app N0 N103q
 obtain ⟨fs, hr, hrun, hended, hW, hsame⟩ := X103.leave (v := some (.int ((Int32.ofNat bs.length) >>> ((0 : Int32) &&& 31)))) (nvr Bd.returns)
 refine ⟨_, _, pre0 _ ?_, hrun, hended, _, _, rfl, ?_, ⟨_, rfl⟩, hW, hsame.mono (by decide) (by decide)⟩
 ·skip
  show SS p e below s₁ m 0 #[vR a1] [] _
  refine XS.aloadN X0.here hx rfl (hb hby d15_0) rfl rfl ?_
  show SS p e below s₁ m 1 #[vR a1] [(.ref a1)] _
  refine st101 _ ?_
  show SS p e below T101 m 4 #[vR a1] [(.ref t1)] _
  refine X101.arraylength hx (by rw [e101]; exact Ar102.1) (State.isArrayOf_alike hZ.alike Ar102.2.1) (g := (mkF m 4 #[vR a1] [(.ref t1)])) rfl rfl (hb hby d15_4) _ ?_
  rw [len_of S102 Nn102]
  refine XS.aloadN X101.here hx rfl (hb hby d15_5) rfl rfl ?_
  show SS p e below T101 m 6 #[vR a1] [(.ref a1), (.int (Int32.ofNat bs.length))] _
  refine st103.trans ?_
  show SS p e below T103 m 9 #[vR a1] [(.int 0), (.int (Int32.ofNat bs.length))] _
  refine XS.ishr X103.here hx rfl (hb hby d15_9) rfl ?_
  show SS p e below T103 m 10 #[vR a1] [(.int ((Int32.ofNat bs.length) >>> ((0 : Int32) &&& 31)))] _
  exact retI X103 hx Bd.returns (hb hby d15_10) hr
 ·show Q_rmLenL Z a1 bs t1 k1 cs0 h0 n0 _ T103.heap _
  rw [H103]
  exact ⟨congrArg (fun z => some (Value.int z)) (own_shr0 _), N103, rfl⟩
theorem d19_0 : DK cD3 0 (.iload_n 0) 1 := by decide +kernel
theorem d19_1 : DK cD3 1 (.iload_n 1) 1 := by decide +kernel
theorem d19_2 : DK cD3 2 (.if_icmp .lt 7) 3 := by decide +kernel
theorem d19_5 : DK cD3 5 (.iload_n 0) 1 := by decide +kernel
theorem d19_6 : DK cD3 6 (.goto 4) 3 := by decide +kernel
theorem d19_9 : DK cD3 9 (.iload_n 1) 1 := by decide +kernel
theorem d19_10 : DK cD3 10 (.ireturn) 1 := by decide +kernel
theorem ef_rmMmax (m : MethodId) (y0 : Int32) (y1 : Int32) : entryFrame m #[(.int y0), (.int y1)] 2 = (mkF m 0 #[vI y0, vI y1] []) := by first | (simp [entryFrame, mkF, argsToLocals, Value.category]; done) | rfl
def Q_rmMmax (Z : State) (p1 : Int32) (p2 : Int32) (h0 : Heap) (n0 : Nat) (v : Option Value) (h : Heap) (L : List Loc) : Prop := v = some (.int (jmax p1 p2)) ∧ Fr n0 L ∧ h = h0
theorem rmMmax (l : Launch) (Z : State) (a0 : Array Value) (hw : HW a0 Z) (ws : List Jvm.Cond) (p1 : Int32) (p2 : Int32) (h0 : Heap) (n0 : Nat) (O0 : Old Z n0 h0) :
  MF l mN3 jdk_29_method_65_code 2 (some .int) ws (Rm 0 0 0 0) Z #[(.int p1), (.int p2)] h0 (Q_rmMmax Z p1 p2 h0 n0) := by
 refine MetFree.of_bodySF (Jvm.Free.JP.mathPlain rfl (by decide +kernel)) hisR ?_
 intro p e s m args below meth c s₁ Bd hml0 hP hK
 obtain ⟨rfl, hZ, hh⟩ := hP
 have hx := Bd.exec
 have hby := Bd.bytes
 have hml : c.maxLocals = 2 := hml0
 have hown : s.vm.findClass "java/lang/Math" = some m.cls := findClass_of_methodNamed Bd.named
 have X0 : Stand p l e (Rm 0 0 0 0) s m #[(.int p1), (.int p2)] below meth c s₁ [] 0 0 := Stand.of_body Bd
 have e0 : s₁.heap = h0 := by rw [← hh, Bd.state]; rfl
 have N0 := Fr.nil n0
 have hn0 : n0 ≤ h0.size := O0.1 ▸ O0.2.1
 have pre0 : ∀ t, SS p e below s₁ m 0 #[vI p1, vI p2] [] t → SE p e below s₁ m #[(.int p1), (.int p2)] 2 t := fun t k => castTop (ef_rmMmax m p1 p2) k
 have pre102 : ∀ t, SS p e below s₁ m 2 #[vI p1, vI p2] [(.int p2), (.int p1)] t → SE p e below s₁ m #[(.int p1), (.int p2)] 2 t := by
  intro t kt
  refine pre0 _ ?_
  show SS p e below s₁ m 0 #[vI p1, vI p2] [] _
  refine XS.iloadN X0.here hx rfl (hb hby d19_0) rfl ?_
  refine XS.iloadN X0.here hx rfl (hb hby d19_1) rfl ?_
  exact kt
 by_cases hc101 : p1 < p2
 ·skip
  obtain ⟨fs, hr, hrun, hended, hW, hsame⟩ := X0.leave (v := some (.int p2)) (nvr Bd.returns)
  refine ⟨_, _, pre102 _ ?_, hrun, hended, _, _, rfl, ?_, ⟨_, rfl⟩, hW, hsame.mono (by decide) (by decide)⟩
  ·skip
   show SS p e below s₁ m 2 #[vI p1, vI p2] [(.int p2), (.int p1)] _
   refine XS.icmpYes X0.here hx rfl (pc0 := 2) (pc' := 9) rfl (hb hby d19_2) rfl (tlt hc101).1 (by decide) (by decide) ?_
   refine XS.iloadN X0.here hx rfl (hb hby d19_9) rfl ?_
   show SS p e below s₁ m 10 #[vI p1, vI p2] [(.int p2)] _
   exact retI X0 hx Bd.returns (hb hby d19_10) hr
  ·show Q_rmMmax Z p1 p2 h0 n0 _ s₁.heap _
   rw [e0]
   exact ⟨by rw [jmax, if_pos hc101], N0, rfl⟩
 ·skip
  obtain ⟨fs, hr, hrun, hended, hW, hsame⟩ := X0.leave (v := some (.int p1)) (nvr Bd.returns)
  refine ⟨_, _, pre102 _ ?_, hrun, hended, _, _, rfl, ?_, ⟨_, rfl⟩, hW, hsame.mono (by decide) (by decide)⟩
  ·skip
   show SS p e below s₁ m 2 #[vI p1, vI p2] [(.int p2), (.int p1)] _
   refine XS.icmpNo X0.here hx rfl (hb hby d19_2) rfl (flt hc101).1 ?_
   refine XS.iloadN X0.here hx rfl (hb hby d19_5) rfl ?_
   refine XS.goto X0.here hx rfl (pc0 := 6) (pc' := 10) rfl (hb hby d19_6) (by decide) (by decide) ?_
   show SS p e below s₁ m 10 #[vI p1, vI p2] [(.int p1)] _
   exact retI X0 hx Bd.returns (hb hby d19_10) hr
  ·show Q_rmMmax Z p1 p2 h0 n0 _ s₁.heap _
   rw [e0]
   exact ⟨by rw [jmax, if_neg hc101], N0, rfl⟩
theorem d20_0 : DK cD4 0 (.iload_n 0) 1 := by decide +kernel
theorem d20_1 : DK cD4 1 (.iload_n 1) 1 := by decide +kernel
theorem d20_2 : DK cD4 2 (.if_icmp .gt 7) 3 := by decide +kernel
theorem d20_5 : DK cD4 5 (.iload_n 0) 1 := by decide +kernel
theorem d20_6 : DK cD4 6 (.goto 4) 3 := by decide +kernel
theorem d20_9 : DK cD4 9 (.iload_n 1) 1 := by decide +kernel
theorem d20_10 : DK cD4 10 (.ireturn) 1 := by decide +kernel
theorem ef_rmMmin (m : MethodId) (y0 : Int32) (y1 : Int32) : entryFrame m #[(.int y0), (.int y1)] 2 = (mkF m 0 #[vI y0, vI y1] []) := by first | (simp [entryFrame, mkF, argsToLocals, Value.category]; done) | rfl
def Q_rmMmin (Z : State) (p1 : Int32) (p2 : Int32) (h0 : Heap) (n0 : Nat) (v : Option Value) (h : Heap) (L : List Loc) : Prop := v = some (.int (jmin p1 p2)) ∧ Fr n0 L ∧ h = h0
theorem rmMmin (l : Launch) (Z : State) (a0 : Array Value) (hw : HW a0 Z) (ws : List Jvm.Cond) (p1 : Int32) (p2 : Int32) (h0 : Heap) (n0 : Nat) (O0 : Old Z n0 h0) :
  MF l mN4 jdk_29_method_69_code 2 (some .int) ws (Rm 0 0 0 0) Z #[(.int p1), (.int p2)] h0 (Q_rmMmin Z p1 p2 h0 n0) := by
 refine MetFree.of_bodySF (Jvm.Free.JP.mathPlain rfl (by decide +kernel)) hisR ?_
 intro p e s m args below meth c s₁ Bd hml0 hP hK
 obtain ⟨rfl, hZ, hh⟩ := hP
 have hx := Bd.exec
 have hby := Bd.bytes
 have hml : c.maxLocals = 2 := hml0
 have hown : s.vm.findClass "java/lang/Math" = some m.cls := findClass_of_methodNamed Bd.named
 have X0 : Stand p l e (Rm 0 0 0 0) s m #[(.int p1), (.int p2)] below meth c s₁ [] 0 0 := Stand.of_body Bd
 have e0 : s₁.heap = h0 := by rw [← hh, Bd.state]; rfl
 have N0 := Fr.nil n0
 have hn0 : n0 ≤ h0.size := O0.1 ▸ O0.2.1
 have pre0 : ∀ t, SS p e below s₁ m 0 #[vI p1, vI p2] [] t → SE p e below s₁ m #[(.int p1), (.int p2)] 2 t := fun t k => castTop (ef_rmMmin m p1 p2) k
 have pre102 : ∀ t, SS p e below s₁ m 2 #[vI p1, vI p2] [(.int p2), (.int p1)] t → SE p e below s₁ m #[(.int p1), (.int p2)] 2 t := by
  intro t kt
  refine pre0 _ ?_
  show SS p e below s₁ m 0 #[vI p1, vI p2] [] _
  refine XS.iloadN X0.here hx rfl (hb hby d20_0) rfl ?_
  refine XS.iloadN X0.here hx rfl (hb hby d20_1) rfl ?_
  exact kt
 by_cases hc101 : p2 < p1
 ·skip
  obtain ⟨fs, hr, hrun, hended, hW, hsame⟩ := X0.leave (v := some (.int p2)) (nvr Bd.returns)
  refine ⟨_, _, pre102 _ ?_, hrun, hended, _, _, rfl, ?_, ⟨_, rfl⟩, hW, hsame.mono (by decide) (by decide)⟩
  ·skip
   show SS p e below s₁ m 2 #[vI p1, vI p2] [(.int p2), (.int p1)] _
   refine XS.icmpYes X0.here hx rfl (pc0 := 2) (pc' := 9) rfl (hb hby d20_2) rfl (tlt hc101).2.2.1 (by decide) (by decide) ?_
   refine XS.iloadN X0.here hx rfl (hb hby d20_9) rfl ?_
   show SS p e below s₁ m 10 #[vI p1, vI p2] [(.int p2)] _
   exact retI X0 hx Bd.returns (hb hby d20_10) hr
  ·show Q_rmMmin Z p1 p2 h0 n0 _ s₁.heap _
   rw [e0]
   exact ⟨by rw [jmin, if_pos hc101], N0, rfl⟩
 ·skip
  obtain ⟨fs, hr, hrun, hended, hW, hsame⟩ := X0.leave (v := some (.int p1)) (nvr Bd.returns)
  refine ⟨_, _, pre102 _ ?_, hrun, hended, _, _, rfl, ?_, ⟨_, rfl⟩, hW, hsame.mono (by decide) (by decide)⟩
  ·skip
   show SS p e below s₁ m 2 #[vI p1, vI p2] [(.int p2), (.int p1)] _
   refine XS.icmpNo X0.here hx rfl (hb hby d20_2) rfl (flt hc101).2.2.1 ?_
   refine XS.iloadN X0.here hx rfl (hb hby d20_5) rfl ?_
   refine XS.goto X0.here hx rfl (pc0 := 6) (pc' := 10) rfl (hb hby d20_6) (by decide) (by decide) ?_
   show SS p e below s₁ m 10 #[vI p1, vI p2] [(.int p1)] _
   exact retI X0 hx Bd.returns (hb hby d20_10) hr
  ·show Q_rmMmin Z p1 p2 h0 n0 _ s₁.heap _
   rw [e0]
   exact ⟨by rw [jmin, if_neg hc101], N0, rfl⟩
theorem d5_0 : DK cD5 0 (.iload_n 0) 1 := by decide +kernel
theorem d5_1 : DK cD5 1 (.ifCond .lt 8) 3 := by decide +kernel
theorem d5_4 : DK cD5 4 (.iload_n 0) 1 := by decide +kernel
theorem d5_5 : DK cD5 5 (.iload_n 1) 1 := by decide +kernel
theorem d5_6 : DK cD5 6 (.if_icmp .lt 10) 3 := by decide +kernel
theorem d5_16 : DK cD5 16 (.iload_n 0) 1 := by decide +kernel
theorem d5_17 : DK cD5 17 (.ireturn) 1 := by decide +kernel
theorem pn_5 : plainName "jdk/internal/util/Preconditions" = true := by first | (simp [plainName, overriddenIn]; done) | decide +kernel
theorem ef_rmCkN (m : MethodId) (y0 : Int32) (y1 : Int32) : entryFrame m #[(.int y0), (.int y1), .null] 3 = (mkF m 0 #[vI y0, vI y1, .val .null] []) := by first | (simp [entryFrame, mkF, argsToLocals, Value.category]; done) | rfl
def Q_rmCkN (Z : State) (p1 : Int32) (p2 : Int32) (h0 : Heap) (n0 : Nat) (v : Option Value) (h : Heap) (L : List Loc) : Prop := v = some (.int p1) ∧ Fr n0 L ∧ h = h0
theorem rmCkN (l : Launch) (Z : State) (a0 : Array Value) (hw : HW a0 Z) (ws : List Jvm.Cond) (p1 : Int32) (p2 : Int32) (h0 : Heap) (n0 : Nat) (O0 : Old Z n0 h0) (c1 : ¬ (p1 < (0 : Int32))) (c2 : p1 < p2) :
  MF l mN5 jdk_41_method_11_code 3 (some .int) ws (Rm 0 0 0 0) Z #[(.int p1), (.int p2), .null] h0 (Q_rmCkN Z p1 p2 h0 n0) := by
 refine MetFree.of_bodySF (plainFor_of_name pn_5) hisR ?_
 intro p e s m args below meth c s₁ Bd hml0 hP hK
 obtain ⟨rfl, hZ, hh⟩ := hP
 have hx := Bd.exec
 have hby := Bd.bytes
 have hml : c.maxLocals = 3 := hml0
 have hown : s.vm.findClass "jdk/internal/util/Preconditions" = some m.cls := findClass_of_methodNamed Bd.named
 have X0 : Stand p l e (Rm 0 0 0 0) s m #[(.int p1), (.int p2), .null] below meth c s₁ [] 0 0 := Stand.of_body Bd
 have e0 : s₁.heap = h0 := by rw [← hh, Bd.state]; rfl
 have N0 := Fr.nil n0
 have hn0 : n0 ≤ h0.size := O0.1 ▸ O0.2.1
 have pre0 : ∀ t, SS p e below s₁ m 0 #[vI p1, vI p2, .val .null] [] t → SE p e below s₁ m #[(.int p1), (.int p2), .null] 3 t := fun t k => castTop (ef_rmCkN m p1 p2) k
 obtain ⟨fs, hr, hrun, hended, hW, hsame⟩ := X0.leave (v := some (.int p1)) (nvr Bd.returns)
 refine ⟨_, _, pre0 _ ?_, hrun, hended, _, _, rfl, ?_, ⟨_, rfl⟩, hW, hsame.mono (by decide) (by decide)⟩
 ·skip
  show SS p e below s₁ m 0 #[vI p1, vI p2, .val .null] [] _
  refine XS.iloadN X0.here hx rfl (hb hby d5_0) rfl ?_
  refine XS.ifNo X0.here hx rfl (hb hby d5_1) rfl ((if0 _ _).trans (flt (c1 : ¬ (p1 < (0 : Int32)))).1) ?_
  refine XS.iloadN X0.here hx rfl (hb hby d5_4) rfl ?_
  refine XS.iloadN X0.here hx rfl (hb hby d5_5) rfl ?_
  refine XS.icmpYes X0.here hx rfl (pc0 := 6) (pc' := 16) rfl (hb hby d5_6) rfl (tlt (c2 : p1 < p2)).1 (by decide) (by decide) ?_
  refine XS.iloadN X0.here hx rfl (hb hby d5_16) rfl ?_
  show SS p e below s₁ m 17 #[vI p1, vI p2, .val .null] [(.int p1)] _
  exact retI X0 hx Bd.returns (hb hby d5_17) hr
 ·show Q_rmCkN Z p1 p2 h0 n0 _ s₁.heap _
  rw [e0]
  exact ⟨rfl, N0, rfl⟩
theorem ef_rmCkF (m : MethodId) (y0 : Int32) (y1 : Int32) (y2 : Addr) : entryFrame m #[(.int y0), (.int y1), (.ref y2)] 3 = (mkF m 0 #[vI y0, vI y1, vR y2] []) := by first | (simp [entryFrame, mkF, argsToLocals, Value.category]; done) | rfl
def Q_rmCkF (Z : State) (p1 : Int32) (p2 : Int32) (a3 : Addr) (h0 : Heap) (n0 : Nat) (v : Option Value) (h : Heap) (L : List Loc) : Prop := v = some (.int p1) ∧ Fr n0 L ∧ h = h0
theorem rmCkF (l : Launch) (Z : State) (a0 : Array Value) (hw : HW a0 Z) (ws : List Jvm.Cond) (p1 : Int32) (p2 : Int32) (a3 : Addr) (h0 : Heap) (n0 : Nat) (O0 : Old Z n0 h0) (c1 : ¬ (p1 < (0 : Int32))) (c2 : p1 < p2) :
  MF l mN5 jdk_41_method_11_code 3 (some .int) ws (Rm 0 0 0 0) Z #[(.int p1), (.int p2), (.ref a3)] h0 (Q_rmCkF Z p1 p2 a3 h0 n0) := by
 refine MetFree.of_bodySF (plainFor_of_name pn_5) hisR ?_
 intro p e s m args below meth c s₁ Bd hml0 hP hK
 obtain ⟨rfl, hZ, hh⟩ := hP
 have hx := Bd.exec
 have hby := Bd.bytes
 have hml : c.maxLocals = 3 := hml0
 have hown : s.vm.findClass "jdk/internal/util/Preconditions" = some m.cls := findClass_of_methodNamed Bd.named
 have X0 : Stand p l e (Rm 0 0 0 0) s m #[(.int p1), (.int p2), (.ref a3)] below meth c s₁ [] 0 0 := Stand.of_body Bd
 have e0 : s₁.heap = h0 := by rw [← hh, Bd.state]; rfl
 have N0 := Fr.nil n0
 have hn0 : n0 ≤ h0.size := O0.1 ▸ O0.2.1
 have pre0 : ∀ t, SS p e below s₁ m 0 #[vI p1, vI p2, vR a3] [] t → SE p e below s₁ m #[(.int p1), (.int p2), (.ref a3)] 3 t := fun t k => castTop (ef_rmCkF m p1 p2 a3) k
 obtain ⟨fs, hr, hrun, hended, hW, hsame⟩ := X0.leave (v := some (.int p1)) (nvr Bd.returns)
 refine ⟨_, _, pre0 _ ?_, hrun, hended, _, _, rfl, ?_, ⟨_, rfl⟩, hW, hsame.mono (by decide) (by decide)⟩
 ·skip
  show SS p e below s₁ m 0 #[vI p1, vI p2, vR a3] [] _
  refine XS.iloadN X0.here hx rfl (hb hby d5_0) rfl ?_
  refine XS.ifNo X0.here hx rfl (hb hby d5_1) rfl ((if0 _ _).trans (flt (c1 : ¬ (p1 < (0 : Int32)))).1) ?_
  refine XS.iloadN X0.here hx rfl (hb hby d5_4) rfl ?_
  refine XS.iloadN X0.here hx rfl (hb hby d5_5) rfl ?_
  refine XS.icmpYes X0.here hx rfl (pc0 := 6) (pc' := 16) rfl (hb hby d5_6) rfl (tlt (c2 : p1 < p2)).1 (by decide) (by decide) ?_
  refine XS.iloadN X0.here hx rfl (hb hby d5_16) rfl ?_
  show SS p e below s₁ m 17 #[vI p1, vI p2, vR a3] [(.int p1)] _
  exact retI X0 hx Bd.returns (hb hby d5_17) hr
 ·show Q_rmCkF Z p1 p2 a3 h0 n0 _ s₁.heap _
  rw [e0]
  exact ⟨rfl, N0, rfl⟩
theorem d4_0 : DK cD6 0 (.iload_n 0) 1 := by decide +kernel
theorem d4_1 : DK cD6 1 (.iload_n 1) 1 := by decide +kernel
theorem d4_2 : DK cD6 2 (.getstatic 1053) 3 := by decide +kernel
theorem d4_5 : DK cD6 5 (.invokestatic 1059) 3 := by decide +kernel
theorem d4_8 : DK cD6 8 (.pop) 1 := by decide +kernel
theorem d4_9 : DK cD6 9 (.return_) 1 := by decide +kernel
theorem pd_4 : parseMethodDescriptor "(IILjava/util/function/BiFunction;)I" = some ⟨[.int, .int, (.object "java/util/function/BiFunction")], some .int⟩ := by decide +kernel
theorem ef_rmCiN (m : MethodId) (y0 : Int32) (y1 : Int32) : entryFrame m #[(.int y0), (.int y1)] 2 = (mkF m 0 #[vI y0, vI y1] []) := by first | (simp [entryFrame, mkF, argsToLocals, Value.category]; done) | rfl
def Q_rmCiN (Z : State) (p1 : Int32) (p2 : Int32) (h0 : Heap) (n0 : Nat) (v : Option Value) (h : Heap) (L : List Loc) : Prop := v = none ∧ Fr n0 L ∧ h = h0
theorem rmCiN (l : Launch) (Z : State) (a0 : Array Value) (hw : HW a0 Z) (ws : List Jvm.Cond) (p1 : Int32) (p2 : Int32) (h0 : Heap) (n0 : Nat) (O0 : Old Z n0 h0) (S_FM : Sta Z Z.heap "jdk/internal/util/Preconditions" "SIOOBE_FORMATTER" "Ljava/util/function/BiFunction;" .null) (c1 : ¬ (p1 < (0 : Int32))) (c2 : p1 < p2) :
  MF l mN6 jdk_42_method_155_code 2 none ws (Rm 1 0 0 20) Z #[(.int p1), (.int p2)] h0 (Q_rmCiN Z p1 p2 h0 n0) := by
 refine MetFree.of_bodySF (plainFor_of_name pn_1) hisR ?_
 intro p e s m args below meth c s₁ Bd hml0 hP hK
 obtain ⟨rfl, hZ, hh⟩ := hP
 have hx := Bd.exec
 have hby := Bd.bytes
 have hml : c.maxLocals = 2 := hml0
 have hown : s.vm.findClass "java/lang/String" = some m.cls := findClass_of_methodNamed Bd.named
 have X0 : Stand p l e (Rm 1 0 0 20) s m #[(.int p1), (.int p2)] below meth c s₁ [] 0 0 := Stand.of_body Bd
 have e0 : s₁.heap = h0 := by rw [← hh, Bd.state]; rfl
 have N0 := Fr.nil n0
 have hn0 : n0 ≤ h0.size := O0.1 ▸ O0.2.1
 have pre0 : ∀ t, SS p e below s₁ m 0 #[vI p1, vI p2] [] t → SE p e below s₁ m #[(.int p1), (.int p2)] 2 t := fun t k => castTop (ef_rmCiN m p1 p2) k
 obtain ⟨T101, X101, e101, st101⟩ := getS2 X0 hx hZ hown (host := "") (Or.inl (tw hw 29 rfl)) Via.refl e0 (Sta.ext O0.2 S_FM) (g := (mkF m 2 #[vI p1, vI p2] [(.int p2), (.int p1)])) rfl (hb hby d4_2)
 obtain ⟨_, _, ⟨T102, L102, k102, n102⟩, -, X102, ⟨Lc102, hQ102, l102, y102, z102⟩, st102⟩ := Jvm.LawKit.callS X101 hx (y := mN5) hown (mvT hZ (tw hw 31 rfl)) (mvT hZ (tw hw 32 rfl)) (mvT hZ (tw hw 30 rfl)) (mvT hZ (tw hw 33 rfl)) (by decide) (backOf (W := 0) (rmCkN l Z a0 hw [] p1 p2  h0 n0 O0 c1 c2) hZ (tw hw 33 rfl) (tw hw 30 rfl) (by decide) (by decide)) (g := (mkF m 5 #[vI p1, vI p2] [.null, (.int p2), (.int p1)])) rfl (by rw [hml]; rfl) (argsL := [(.int p1), (.int p2), .null]) (rest := []) (lenOf pd_4 rfl) rfl (wL _) (hb hby d4_5) (fun _ _ => ⟨rfl, e101, (by decide : 0 + 0 ≤ _), (by decide : 0 + 0 ≤ _)⟩)
 dsimp only [Pt.U, Pt.locs, Pt.cells, Pt.slots] at X102 l102 y102 z102 st102 hQ102
 rw [l102] at X102
 subst y102 z102
 obtain ⟨rfl, N102q, H102⟩ := hQ102
 have N102 := Fr.app N0 N102q
 obtain ⟨fs, hr, hrun, hended, hW, hsame⟩ := X102.leave (v := none) (fun _ => rfl)
 refine ⟨_, _, pre0 _ ?_, hrun, hended, _, _, rfl, ?_, ⟨_, rfl⟩, hW, hsame.mono (by decide) (by decide)⟩
 ·skip
  show SS p e below s₁ m 0 #[vI p1, vI p2] [] _
  refine XS.iloadN X0.here hx rfl (hb hby d4_0) rfl ?_
  refine XS.iloadN X0.here hx rfl (hb hby d4_1) rfl ?_
  show SS p e below s₁ m 2 #[vI p1, vI p2] [(.int p2), (.int p1)] _
  refine st101 _ ?_
  show SS p e below T101 m 5 #[vI p1, vI p2] [.null, (.int p2), (.int p1)] _
  refine st102 _ ?_
  refine XS.pop X102.here hx rfl (hb hby d4_8) rfl rfl ?_
  show SS p e below T102 m 9 #[vI p1, vI p2] [] _
  exact X102.returnOut hx Bd.returns (hb hby d4_9) hr
 ·show Q_rmCiN Z p1 p2 h0 n0 _ T102.heap _
  rw [H102]
  exact ⟨rfl, N102, rfl⟩
theorem ef_rmCiF (m : MethodId) (y0 : Int32) (y1 : Int32) : entryFrame m #[(.int y0), (.int y1)] 2 = (mkF m 0 #[vI y0, vI y1] []) := by first | (simp [entryFrame, mkF, argsToLocals, Value.category]; done) | rfl
def Q_rmCiF (Z : State) (p1 : Int32) (p2 : Int32) (fm : Addr) (h0 : Heap) (n0 : Nat) (v : Option Value) (h : Heap) (L : List Loc) : Prop := v = none ∧ Fr n0 L ∧ h = h0
theorem rmCiF (l : Launch) (Z : State) (a0 : Array Value) (hw : HW a0 Z) (ws : List Jvm.Cond) (p1 : Int32) (p2 : Int32) (fm : Addr) (h0 : Heap) (n0 : Nat) (O0 : Old Z n0 h0) (S_FM : Sta Z Z.heap "jdk/internal/util/Preconditions" "SIOOBE_FORMATTER" "Ljava/util/function/BiFunction;" (.ref fm)) (c1 : ¬ (p1 < (0 : Int32))) (c2 : p1 < p2) :
  MF l mN6 jdk_42_method_155_code 2 none ws (Rm 1 0 0 20) Z #[(.int p1), (.int p2)] h0 (Q_rmCiF Z p1 p2 fm h0 n0) := by
 refine MetFree.of_bodySF (plainFor_of_name pn_1) hisR ?_
 intro p e s m args below meth c s₁ Bd hml0 hP hK
 obtain ⟨rfl, hZ, hh⟩ := hP
 have hx := Bd.exec
 have hby := Bd.bytes
 have hml : c.maxLocals = 2 := hml0
 have hown : s.vm.findClass "java/lang/String" = some m.cls := findClass_of_methodNamed Bd.named
 have X0 : Stand p l e (Rm 1 0 0 20) s m #[(.int p1), (.int p2)] below meth c s₁ [] 0 0 := Stand.of_body Bd
 have e0 : s₁.heap = h0 := by rw [← hh, Bd.state]; rfl
 have N0 := Fr.nil n0
 have hn0 : n0 ≤ h0.size := O0.1 ▸ O0.2.1
 have pre0 : ∀ t, SS p e below s₁ m 0 #[vI p1, vI p2] [] t → SE p e below s₁ m #[(.int p1), (.int p2)] 2 t := fun t k => castTop (ef_rmCiF m p1 p2) k
 obtain ⟨T101, X101, e101, st101⟩ := getS2 X0 hx hZ hown (host := "") (Or.inl (tw hw 29 rfl)) Via.refl e0 (Sta.ext O0.2 S_FM) (g := (mkF m 2 #[vI p1, vI p2] [(.int p2), (.int p1)])) rfl (hb hby d4_2)
 obtain ⟨_, _, ⟨T102, L102, k102, n102⟩, -, X102, ⟨Lc102, hQ102, l102, y102, z102⟩, st102⟩ := Jvm.LawKit.callS X101 hx (y := mN5) hown (mvT hZ (tw hw 31 rfl)) (mvT hZ (tw hw 32 rfl)) (mvT hZ (tw hw 30 rfl)) (mvT hZ (tw hw 33 rfl)) (by decide) (backOf (W := 0) (rmCkF l Z a0 hw [] p1 p2 fm  h0 n0 O0 c1 c2) hZ (tw hw 33 rfl) (tw hw 30 rfl) (by decide) (by decide)) (g := (mkF m 5 #[vI p1, vI p2] [(.ref fm), (.int p2), (.int p1)])) rfl (by rw [hml]; rfl) (argsL := [(.int p1), (.int p2), (.ref fm)]) (rest := []) (lenOf pd_4 rfl) rfl (wL _) (hb hby d4_5) (fun _ _ => ⟨rfl, e101, (by decide : 0 + 0 ≤ _), (by decide : 0 + 0 ≤ _)⟩)
 dsimp only [Pt.U, Pt.locs, Pt.cells, Pt.slots] at X102 l102 y102 z102 st102 hQ102
 rw [l102] at X102
 subst y102 z102
 obtain ⟨rfl, N102q, H102⟩ := hQ102
 have N102 := Fr.app N0 N102q
 obtain ⟨fs, hr, hrun, hended, hW, hsame⟩ := X102.leave (v := none) (fun _ => rfl)
 refine ⟨_, _, pre0 _ ?_, hrun, hended, _, _, rfl, ?_, ⟨_, rfl⟩, hW, hsame.mono (by decide) (by decide)⟩
 ·skip
  show SS p e below s₁ m 0 #[vI p1, vI p2] [] _
  refine XS.iloadN X0.here hx rfl (hb hby d4_0) rfl ?_
  refine XS.iloadN X0.here hx rfl (hb hby d4_1) rfl ?_
  show SS p e below s₁ m 2 #[vI p1, vI p2] [(.int p2), (.int p1)] _
  refine st101 _ ?_
  show SS p e below T101 m 5 #[vI p1, vI p2] [(.ref fm), (.int p2), (.int p1)] _
  refine st102 _ ?_
  refine XS.pop X102.here hx rfl (hb hby d4_8) rfl rfl ?_
  show SS p e below T102 m 9 #[vI p1, vI p2] [] _
  exact X102.returnOut hx Bd.returns (hb hby d4_9) hr
 ·show Q_rmCiF Z p1 p2 fm h0 n0 _ T102.heap _
  rw [H102]
  exact ⟨rfl, N102, rfl⟩
def Q_rmCi (Z : State) (p1 p2 : Int32) (fm : Value) (h0 : Heap) (n0 : Nat) (v : Option Value) (h : Heap) (L : List Loc) : Prop := v = none ∧ Fr n0 L ∧ h = h0
theorem rmCi (l : Launch) (Z : State) (a0 : Array Value) (hw : HW a0 Z) (ws : List Jvm.Cond) (p1 p2 : Int32) (fm : Value) (h0 : Heap) (n0 : Nat) (O0 : Old Z n0 h0) (S_FM : SFM Z fm) (r_FM : fm.isRef = true) (c1 : ¬ (p1 < (0 : Int32))) (c2 : p1 < p2) :
  MF l mN6 jdk_42_method_155_code 2 none ws (Rm 1 0 0 20) Z #[(.int p1), (.int p2)] h0 (Q_rmCi Z p1 p2 fm h0 n0) := by
 rcases ref_cases r_FM with rfl | ⟨a, rfl⟩
 ·exact rmCiN l Z a0 hw ws p1 p2 h0 n0 O0 S_FM c1 c2
 ·exact rmCiF l Z a0 hw ws p1 p2 a h0 n0 O0 S_FM c1 c2
theorem d25_0 : DK cD7 0 (.aload_n 0) 1 := by decide +kernel
theorem d25_1 : DK cD7 1 (.iload_n 1) 1 := by decide +kernel
theorem d25_2 : DK cD7 2 (.baload) 1 := by decide +kernel
theorem d25_3 : DK cD7 3 (.sipush 255) 3 := by decide +kernel
theorem d25_6 : DK cD7 6 (.iand) 1 := by decide +kernel
theorem d25_7 : DK cD7 7 (.i2c) 1 := by decide +kernel
theorem d25_8 : DK cD7 8 (.ireturn) 1 := by decide +kernel
theorem pn_3 : plainName "java/lang/StringLatin1" = true := by first | (simp [plainName, overriddenIn]; done) | decide +kernel
theorem ef_rmGch (m : MethodId) (y0 : Addr) (y1 : Int32) : entryFrame m #[(.ref y0), (.int y1)] 2 = (mkF m 0 #[vR y0, vI y1] []) := by first | (simp [entryFrame, mkF, argsToLocals, Value.category]; done) | rfl
def Q_rmGch (Z : State) (a1 : Addr) (bs : List Int32) (k1 : ClassId) (i : Nat) (h0 : Heap) (n0 : Nat) (v : Option Value) (h : Heap) (L : List Loc) : Prop := v = some (.int ((bs.getD i 0) &&& (255 : Int32))) ∧ Fr n0 L ∧ h = h0
theorem rmGch (l : Launch) (Z : State) (a0 : Array Value) (hw : HW a0 Z) (ws : List Jvm.Cond) (a1 : Addr) (bs : List Int32) (k1 : ClassId) (i : Nat) (h0 : Heap) (n0 : Nat) (O0 : Old Z n0 h0) (V1 : Arv Z h0 a1 k1 .byte (Int32.ofNat bs.length) (bs.map Value.int) (.int 0)) (hn : bs.length ≤ 40) (hi : i < bs.length) :
  MF l mN7 jdk_43_method_44_code 2 (some .char) ws (Rm 0 0 0 0) Z #[(.ref a1), (.int (Int32.ofNat i))] h0 (Q_rmGch Z a1 bs k1 i h0 n0) := by
 refine MetFree.of_bodySF (plainFor_of_name pn_3) hisR ?_
 intro p e s m args below meth c s₁ Bd hml0 hP hK
 obtain ⟨rfl, hZ, hh⟩ := hP
 have hx := Bd.exec
 have hby := Bd.bytes
 have hml : c.maxLocals = 2 := hml0
 have hown : s.vm.findClass "java/lang/StringLatin1" = some m.cls := findClass_of_methodNamed Bd.named
 have X0 : Stand p l e (Rm 0 0 0 0) s m #[(.ref a1), (.int (Int32.ofNat i))] below meth c s₁ [] 0 0 := Stand.of_body Bd
 have e0 : s₁.heap = h0 := by rw [← hh, Bd.state]; rfl
 have N0 := Fr.nil n0
 have hn0 : n0 ≤ h0.size := O0.1 ▸ O0.2.1
 have pre0 : ∀ t, SS p e below s₁ m 0 #[vR a1, vI (Int32.ofNat i)] [] t → SE p e below s₁ m #[(.ref a1), (.int (Int32.ofNat i))] 2 t := fun t k => castTop (ef_rmGch m a1 ((Int32.ofNat i))) k
 obtain ⟨cl101, Ar101, q101, S101, Nn101, H101, G101⟩ := id V1
 have hat101 : cl101.slots[((Int32.ofNat i)).toNatClampNeg]? = some (.int (bs.getD i 0)) := (Has.at H101 (inb_of S101 ⟨own_nn (by omega), (own_lt (by omega) (by omega)).mpr (by omega)⟩) (own_getD _ hi (by omega)))
 obtain ⟨fs, hr, hrun, hended, hW, hsame⟩ := X0.leave (v := some (.int (nar .char (((bs.getD i 0) &&& (255 : Int32)).toUInt32.toUInt16.toUInt32.toInt32)))) (nvr Bd.returns)
 refine ⟨_, _, pre0 _ ?_, hrun, hended, _, _, rfl, ?_, ⟨_, rfl⟩, hW, hsame.mono (by decide) (by decide)⟩
 ·skip
  show SS p e below s₁ m 0 #[vR a1, vI (Int32.ofNat i)] [] _
  refine XS.aloadN X0.here hx rfl (hb hby d25_0) rfl rfl ?_
  refine XS.iloadN X0.here hx rfl (hb hby d25_1) rfl ?_
  show SS p e below s₁ m 2 #[vR a1, vI (Int32.ofNat i)] [(.int (Int32.ofNat i)), (.ref a1)] _
  refine X0.baloadBytes hx (j := (Int32.ofNat i)) (v := (.int (bs.getD i 0))) (by rw [e0]; exact Ar101.1) (State.isArrayOf_alike hZ.alike Ar101.2.1) Ar101.2.2 (inb_of S101 ⟨own_nn (by omega), (own_lt (by omega) (by omega)).mpr (by omega)⟩) hat101 (g := (mkF m 2 #[vR a1, vI (Int32.ofNat i)] [(.int (Int32.ofNat i)), (.ref a1)])) rfl rfl (hb hby d25_2) _ ?_
  refine XS.sipush X0.here hx rfl (hb hby d25_3) ?_
  refine XS.iand X0.here hx rfl (hb hby d25_6) rfl ?_
  refine XS.i2c X0.here hx rfl (hb hby d25_7) rfl ?_
  show SS p e below s₁ m 8 #[vR a1, vI (Int32.ofNat i)] [(.int (((bs.getD i 0) &&& (255 : Int32)).toUInt32.toUInt16.toUInt32.toInt32))] _
  exact retN X0 hx (t := .char) Bd.returns (by simp) (hb hby d25_8) hr
 ·show Q_rmGch Z a1 bs k1 i h0 n0 _ s₁.heap _
  rw [e0]
  exact ⟨congrArg (fun z => some (Value.int z)) ((own_c16 _).trans (i2c_mask _)), N0, rfl⟩
theorem d3_0 : DK cD8 0 (.iload_n 1) 1 := by decide +kernel
theorem d3_1 : DK cD8 1 (.aload_n 0) 1 := by decide +kernel
theorem d3_2 : DK cD8 2 (.arraylength) 1 := by decide +kernel
theorem d3_3 : DK cD8 3 (.invokestatic 9) 3 := by decide +kernel
theorem d3_6 : DK cD8 6 (.aload_n 0) 1 := by decide +kernel
theorem d3_7 : DK cD8 7 (.iload_n 1) 1 := by decide +kernel
theorem d3_8 : DK cD8 8 (.baload) 1 := by decide +kernel
theorem d3_9 : DK cD8 9 (.sipush 255) 3 := by decide +kernel
theorem d3_12 : DK cD8 12 (.iand) 1 := by decide +kernel
theorem d3_13 : DK cD8 13 (.i2c) 1 := by decide +kernel
theorem d3_14 : DK cD8 14 (.ireturn) 1 := by decide +kernel
theorem pd_3 : parseMethodDescriptor "(II)V" = some ⟨[.int, .int], none⟩ := by decide +kernel
theorem ef_rmXc (m : MethodId) (y0 : Addr) (y1 : Int32) : entryFrame m #[(.ref y0), (.int y1)] 2 = (mkF m 0 #[vR y0, vI y1] []) := by first | (simp [entryFrame, mkF, argsToLocals, Value.category]; done) | rfl
def Q_rmXc (Z : State) (a1 : Addr) (bs : List Int32) (k1 : ClassId) (i : Nat) (fm : Value) (h0 : Heap) (n0 : Nat) (v : Option Value) (h : Heap) (L : List Loc) : Prop := v = some (.int ((bs.getD i 0) &&& (255 : Int32))) ∧ Fr n0 L ∧ h = h0
theorem rmXc (l : Launch) (Z : State) (a0 : Array Value) (hw : HW a0 Z) (ws : List Jvm.Cond) (a1 : Addr) (bs : List Int32) (k1 : ClassId) (i : Nat) (fm : Value) (h0 : Heap) (n0 : Nat) (O0 : Old Z n0 h0) (V1 : Arv Z h0 a1 k1 .byte (Int32.ofNat bs.length) (bs.map Value.int) (.int 0)) (hn : bs.length ≤ 40) (hi : i < bs.length) (S_FM : SFM Z fm) (r_FM : fm.isRef = true) :
  MF l mN8 jdk_43_method_2_code 2 (some .char) ws (Rm 2 0 0 40) Z #[(.ref a1), (.int (Int32.ofNat i))] h0 (Q_rmXc Z a1 bs k1 i fm h0 n0) := by
 refine MetFree.of_bodySF (plainFor_of_name pn_3) hisR ?_
 intro p e s m args below meth c s₁ Bd hml0 hP hK
 obtain ⟨rfl, hZ, hh⟩ := hP
 have hx := Bd.exec
 have hby := Bd.bytes
 have hml : c.maxLocals = 2 := hml0
 have hown : s.vm.findClass "java/lang/StringLatin1" = some m.cls := findClass_of_methodNamed Bd.named
 have X0 : Stand p l e (Rm 2 0 0 40) s m #[(.ref a1), (.int (Int32.ofNat i))] below meth c s₁ [] 0 0 := Stand.of_body Bd
 have e0 : s₁.heap = h0 := by rw [← hh, Bd.state]; rfl
 have N0 := Fr.nil n0
 have hn0 : n0 ≤ h0.size := O0.1 ▸ O0.2.1
 have pre0 : ∀ t, SS p e below s₁ m 0 #[vR a1, vI (Int32.ofNat i)] [] t → SE p e below s₁ m #[(.ref a1), (.int (Int32.ofNat i))] 2 t := fun t k => castTop (ef_rmXc m a1 ((Int32.ofNat i))) k
 obtain ⟨cl101, Ar101, q101, S101, Nn101, H101, G101⟩ := id V1
 obtain ⟨_, _, ⟨T102, L102, k102, n102⟩, -, X102, ⟨Lc102, hQ102, l102, y102, z102⟩, st102⟩ := Jvm.LawKit.callS X0 hx (y := mN6) hown (mvT hZ (tw hw 26 rfl)) (mvT hZ (tw hw 27 rfl)) (mvT hZ (tw hw 1 rfl)) (mvT hZ (tw hw 28 rfl)) (by decide) (backOf (W := 0) (rmCi l Z a0 hw [] (Int32.ofNat i) (Int32.ofNat bs.length) fm h0 n0 O0 S_FM r_FM (own_nn (by omega)) ((own_lt (by omega) (by omega)).mpr (by omega))) hZ (tw hw 28 rfl) (tw hw 1 rfl) (by decide) (by decide)) (g := (mkF m 3 #[vR a1, vI (Int32.ofNat i)] [(.int (Int32.ofNat bs.length)), (.int (Int32.ofNat i))])) rfl (by rw [hml]; rfl) (argsL := [(.int (Int32.ofNat i)), (.int (Int32.ofNat bs.length))]) (rest := []) (lenOf pd_3 rfl) rfl (wL _) (hb hby d3_3) (fun _ _ => ⟨rfl, e0, (by decide : 0 + 0 ≤ _), (by decide : 0 + 0 ≤ _)⟩)
 dsimp only [Pt.U, Pt.locs, Pt.cells, Pt.slots] at X102 l102 y102 z102 st102 hQ102
 rw [l102] at X102
 subst y102 z102
 obtain ⟨rfl, N102q, H102⟩ := hQ102
 have N102 := Fr.app N0 N102q
 obtain ⟨cl103, Ar103, q103, S103, Nn103, H103, G103⟩ := id V1
 have hat103 : cl103.slots[((Int32.ofNat i)).toNatClampNeg]? = some (.int (bs.getD i 0)) := (Has.at H103 (inb_of S103 ⟨own_nn (by omega), (own_lt (by omega) (by omega)).mpr (by omega)⟩) (own_getD _ hi (by omega)))
 obtain ⟨fs, hr, hrun, hended, hW, hsame⟩ := X102.leave (v := some (.int (nar .char (((bs.getD i 0) &&& (255 : Int32)).toUInt32.toUInt16.toUInt32.toInt32)))) (nvr Bd.returns)
 refine ⟨_, _, pre0 _ ?_, hrun, hended, _, _, rfl, ?_, ⟨_, rfl⟩, hW, hsame.mono (by decide) (by decide)⟩
 ·skip
  show SS p e below s₁ m 0 #[vR a1, vI (Int32.ofNat i)] [] _
  refine XS.iloadN X0.here hx rfl (hb hby d3_0) rfl ?_
  refine XS.aloadN X0.here hx rfl (hb hby d3_1) rfl rfl ?_
  show SS p e below s₁ m 2 #[vR a1, vI (Int32.ofNat i)] [(.ref a1), (.int (Int32.ofNat i))] _
  refine X0.arraylength hx (by rw [e0]; exact Ar101.1) (State.isArrayOf_alike hZ.alike Ar101.2.1) (g := (mkF m 2 #[vR a1, vI (Int32.ofNat i)] [(.ref a1), (.int (Int32.ofNat i))])) rfl rfl (hb hby d3_2) _ ?_
  rw [len_of S101 Nn101]
  show SS p e below s₁ m 3 #[vR a1, vI (Int32.ofNat i)] [(.int (Int32.ofNat bs.length)), (.int (Int32.ofNat i))] _
  refine st102 _ ?_
  refine XS.aloadN X102.here hx rfl (hb hby d3_6) rfl rfl ?_
  refine XS.iloadN X102.here hx rfl (hb hby d3_7) rfl ?_
  show SS p e below T102 m 8 #[vR a1, vI (Int32.ofNat i)] [(.int (Int32.ofNat i)), (.ref a1)] _
  refine X102.baloadBytes hx (j := (Int32.ofNat i)) (v := (.int (bs.getD i 0))) (by rw [H102]; exact Ar103.1) (State.isArrayOf_alike hZ.alike Ar103.2.1) Ar103.2.2 (inb_of S103 ⟨own_nn (by omega), (own_lt (by omega) (by omega)).mpr (by omega)⟩) hat103 (g := (mkF m 8 #[vR a1, vI (Int32.ofNat i)] [(.int (Int32.ofNat i)), (.ref a1)])) rfl rfl (hb hby d3_8) _ ?_
  refine XS.sipush X102.here hx rfl (hb hby d3_9) ?_
  refine XS.iand X102.here hx rfl (hb hby d3_12) rfl ?_
  refine XS.i2c X102.here hx rfl (hb hby d3_13) rfl ?_
  show SS p e below T102 m 14 #[vR a1, vI (Int32.ofNat i)] [(.int (((bs.getD i 0) &&& (255 : Int32)).toUInt32.toUInt16.toUInt32.toInt32))] _
  exact retN X102 hx (t := .char) Bd.returns (by simp) (hb hby d3_14) hr
 ·show Q_rmXc Z a1 bs k1 i fm h0 n0 _ T102.heap _
  rw [H102]
  exact ⟨congrArg (fun z => some (Value.int z)) ((own_c16 _).trans (i2c_mask _)), N102, rfl⟩
theorem d1_0 : DK cD9 0 (.aload_n 0) 1 := by decide +kernel
theorem d1_1 : DK cD9 1 (.invokevirtual 492) 3 := by decide +kernel
theorem d1_4 : DK cD9 4 (.ifCond .eq 12) 3 := by decide +kernel
theorem d1_7 : DK cD9 7 (.aload_n 0) 1 := by decide +kernel
theorem d1_8 : DK cD9 8 (.getfield 9) 3 := by decide +kernel
theorem d1_11 : DK cD9 11 (.iload_n 1) 1 := by decide +kernel
theorem d1_12 : DK cD9 12 (.invokestatic 495) 3 := by decide +kernel
theorem d1_15 : DK cD9 15 (.ireturn) 1 := by decide +kernel
theorem pd_1 : parseMethodDescriptor "()Z" = some ⟨[], some .boolean⟩ := by decide +kernel
theorem pd_2 : parseMethodDescriptor "([BI)C" = some ⟨[(.array .byte), .int], some .char⟩ := by decide +kernel
theorem ef_rmStc (m : MethodId) (y0 : Addr) (y1 : Int32) : entryFrame m #[(.ref y0), (.int y1)] 2 = (mkF m 0 #[vR y0, vI y1] []) := by first | (simp [entryFrame, mkF, argsToLocals, Value.category]; done) | rfl
def Q_rmStc (Z : State) (a1 : Addr) (bs : List Int32) (cs0 : Int32) (t1 : Addr) (k1 : ClassId) (i : Nat) (fm : Value) (h0 : Heap) (n0 : Nat) (v : Option Value) (h : Heap) (L : List Loc) : Prop := v = some (.int ((bs.getD i 0) &&& (255 : Int32))) ∧ Fr n0 L ∧ h = h0
theorem rmStc (l : Launch) (Z : State) (a0 : Array Value) (hw : HW a0 Z) (ws : List Jvm.Cond) (a1 : Addr) (bs : List Int32) (cs0 : Int32) (t1 : Addr) (k1 : ClassId) (i : Nat) (fm : Value) (h0 : Heap) (n0 : Nat) (O0 : Old Z n0 h0) (S_CS : SCS Z cs0) (c_CS : ¬ (cs0 = (0 : Int32))) (Es : Exa Z h0 a1 "java/lang/String") (Sv : Fld Z h0 a1 "java/lang/String" "value" "[B" (.ref t1)) (Sc : Fld Z h0 a1 "java/lang/String" "coder" "B" (.int 0)) (Vs : Arv Z h0 t1 k1 .byte (Int32.ofNat bs.length) (bs.map Value.int) (.int 0)) (hn : bs.length ≤ 40) (hi : i < bs.length) (S_FM : SFM Z fm) (r_FM : fm.isRef = true) :
  MF l mN9 jdk_42_method_56_code 2 (some .char) ws (Rm 3 0 0 60) Z #[(.ref a1), (.int (Int32.ofNat i))] h0 (Q_rmStc Z a1 bs cs0 t1 k1 i fm h0 n0) := by
 refine MetFree.of_bodySF (plainFor_of_name pn_1) hisR ?_
 intro p e s m args below meth c s₁ Bd hml0 hP hK
 obtain ⟨rfl, hZ, hh⟩ := hP
 have hx := Bd.exec
 have hby := Bd.bytes
 have hml : c.maxLocals = 2 := hml0
 have hown : s.vm.findClass "java/lang/String" = some m.cls := findClass_of_methodNamed Bd.named
 have X0 : Stand p l e (Rm 3 0 0 60) s m #[(.ref a1), (.int (Int32.ofNat i))] below meth c s₁ [] 0 0 := Stand.of_body Bd
 have e0 : s₁.heap = h0 := by rw [← hh, Bd.state]; rfl
 have N0 := Fr.nil n0
 have hn0 : n0 ≤ h0.size := O0.1 ▸ O0.2.1
 have pre0 : ∀ t, SS p e below s₁ m 0 #[vR a1, vI (Int32.ofNat i)] [] t → SE p e below s₁ m #[(.ref a1), (.int (Int32.ofNat i))] 2 t := fun t k => castTop (ef_rmStc m a1 ((Int32.ofNat i))) k
 obtain ⟨cq101, kq101, q101a, q101b, q101c⟩ := isOf hZ e0 Es
 obtain ⟨_, _, ⟨T101, L101, k101, n101⟩, -, X101, ⟨Lc101, hQ101, l101, y101, z101⟩, st101⟩ := X0.virtualBack hx (y := mN1) (z := mN1) hown (mvT hZ (tw hw 14 rfl)) (mvT hZ (tw hw 15 rfl)) (notFace_of_selects (args := #[]) (mvT hZ (tw hw 17 rfl))) (mvT hZ (tw hw 17 rfl)) (mvT hZ (tw hw 16 rfl)) (by decide) (backOf (W := 0) (rmIsLat l Z a0 hw [] a1 bs t1 k1 cs0 h0 n0 O0 S_CS c_CS Es Sv Sc Vs hn) hZ (tw hw 18 rfl) (tw hw 1 rfl) (by decide) (by decide)) q101a q101c (g := (mkF m 1 #[vR a1, vI (Int32.ofNat i)] [(.ref a1)])) rfl (by rw [hml]; rfl) (Steps.refl _) (argsL := []) (rest := []) (lenOf pd_1 rfl) rfl (wL _) (hb hby d1_1) (fun _ _ => ⟨rfl, e0, (by decide : 0 + 0 ≤ _), (by decide : 0 + 0 ≤ _)⟩)
 dsimp only [Pt.U, Pt.locs, Pt.cells, Pt.slots] at X101 l101 y101 z101 st101 hQ101
 rw [l101] at X101
 subst y101 z101
 obtain ⟨rfl, N101q, H101⟩ := hQ101
 have N101 := Fr.app N0 N101q
 obtain ⟨T102, X102, e102, st102⟩ := getF X101 hx hZ hown (host := "") (Or.inl (tw hw 21 rfl)) Via.refl H101 Sv (g := (mkF m 8 #[vR a1, vI (Int32.ofNat i)] [(.ref a1)])) rfl rfl (hb hby d1_8)
 obtain ⟨_, _, ⟨T103, L103, k103, n103⟩, -, X103, ⟨Lc103, hQ103, l103, y103, z103⟩, st103⟩ := Jvm.LawKit.callS X102 hx (y := mN8) hown (mvT hZ (tw hw 22 rfl)) (mvT hZ (tw hw 23 rfl)) (mvT hZ (tw hw 24 rfl)) (mvT hZ (tw hw 25 rfl)) (by decide) (backOf (W := 0) (rmXc l Z a0 hw [] t1 bs k1 i fm h0 n0 O0 Vs hn hi S_FM r_FM) hZ (tw hw 25 rfl) (tw hw 24 rfl) (by decide) (by decide)) (g := (mkF m 12 #[vR a1, vI (Int32.ofNat i)] [(.int (Int32.ofNat i)), (.ref t1)])) rfl (by rw [hml]; rfl) (argsL := [(.ref t1), (.int (Int32.ofNat i))]) (rest := []) (lenOf pd_2 rfl) rfl (wL _) (hb hby d1_12) (fun _ _ => ⟨rfl, e102, (by decide : 0 + 0 ≤ _), (by decide : 0 + 0 ≤ _)⟩)
 dsimp only [Pt.U, Pt.locs, Pt.cells, Pt.slots] at X103 l103 y103 z103 st103 hQ103
 rw [l103] at X103
 subst y103 z103
 obtain ⟨rfl, N103q, H103⟩ := hQ103
 have N103 := Fr.app N101 N103q
 obtain ⟨fs, hr, hrun, hended, hW, hsame⟩ := X103.leave (v := some (.int (nar .char ((bs.getD i 0) &&& (255 : Int32))))) (nvr Bd.returns)
 refine ⟨_, _, pre0 _ ?_, hrun, hended, _, _, rfl, ?_, ⟨_, rfl⟩, hW, hsame.mono (by decide) (by decide)⟩
 ·skip
  show SS p e below s₁ m 0 #[vR a1, vI (Int32.ofNat i)] [] _
  refine XS.aloadN X0.here hx rfl (hb hby d1_0) rfl rfl ?_
  show SS p e below s₁ m 1 #[vR a1, vI (Int32.ofNat i)] [(.ref a1)] _
  refine st101.trans ?_
  refine XS.ifNo X101.here hx rfl (hb hby d1_4) rfl ((if0 _ _).trans (feq (by decide : ¬ ((1 : Int32) = (0 : Int32)))).1) ?_
  refine XS.aloadN X101.here hx rfl (hb hby d1_7) rfl rfl ?_
  show SS p e below T101 m 8 #[vR a1, vI (Int32.ofNat i)] [(.ref a1)] _
  refine st102 _ ?_
  refine XS.iloadN X102.here hx rfl (hb hby d1_11) rfl ?_
  show SS p e below T102 m 12 #[vR a1, vI (Int32.ofNat i)] [(.int (Int32.ofNat i)), (.ref t1)] _
  refine st103 _ ?_
  show SS p e below T103 m 15 #[vR a1, vI (Int32.ofNat i)] [(.int ((bs.getD i 0) &&& (255 : Int32)))] _
  exact retN X103 hx (t := .char) Bd.returns (by simp) (hb hby d1_15) hr
 ·show Q_rmStc Z a1 bs cs0 t1 k1 i fm h0 n0 _ T103.heap _
  rw [H103]
  exact ⟨congrArg (fun z => some (Value.int z)) (i2c_mask _), N103, rfl⟩
theorem d18_0 : DK cD10 0 (.iload_n 0) 1 := by decide +kernel
theorem d18_1 : DK cD10 1 (.ifCond .lt 14) 3 := by decide +kernel
theorem d18_4 : DK cD10 4 (.iload_n 0) 1 := by decide +kernel
theorem d18_5 : DK cD10 5 (.sipush 255) 3 := by decide +kernel
theorem d18_8 : DK cD10 8 (.if_icmp .gt 7) 3 := by decide +kernel
theorem d18_11 : DK cD10 11 (.iconst 1) 1 := by decide +kernel
theorem d18_12 : DK cD10 12 (.goto 4) 3 := by decide +kernel
theorem d18_16 : DK cD10 16 (.ireturn) 1 := by decide +kernel
theorem ef_rmCe (m : MethodId) : entryFrame m #[(.int 59)] 1 = (mkF m 0 #[vI 59] []) := by first | (simp [entryFrame, mkF, argsToLocals, Value.category]; done) | rfl
def Q_rmCe (Z : State)  (h0 : Heap) (n0 : Nat) (v : Option Value) (h : Heap) (L : List Loc) : Prop := v = some (.int 1) ∧ Fr n0 L ∧ h = h0
theorem rmCe (l : Launch) (Z : State) (a0 : Array Value) (hw : HW a0 Z) (ws : List Jvm.Cond)  (h0 : Heap) (n0 : Nat) (O0 : Old Z n0 h0) :
  MF l mN10 jdk_43_method_4_code 1 (some .boolean) ws (Rm 0 0 0 0) Z #[(.int 59)] h0 (Q_rmCe Z  h0 n0) := by
 refine MetFree.of_bodySF (plainFor_of_name pn_3) hisR ?_
 intro p e s m args below meth c s₁ Bd hml0 hP hK
 obtain ⟨rfl, hZ, hh⟩ := hP
 have hx := Bd.exec
 have hby := Bd.bytes
 have hml : c.maxLocals = 1 := hml0
 have hown : s.vm.findClass "java/lang/StringLatin1" = some m.cls := findClass_of_methodNamed Bd.named
 have X0 : Stand p l e (Rm 0 0 0 0) s m #[(.int 59)] below meth c s₁ [] 0 0 := Stand.of_body Bd
 have e0 : s₁.heap = h0 := by rw [← hh, Bd.state]; rfl
 have N0 := Fr.nil n0
 have hn0 : n0 ≤ h0.size := O0.1 ▸ O0.2.1
 have pre0 : ∀ t, SS p e below s₁ m 0 #[vI 59] [] t → SE p e below s₁ m #[(.int 59)] 1 t := fun t k => castTop (ef_rmCe m ) k
 obtain ⟨fs, hr, hrun, hended, hW, hsame⟩ := X0.leave (v := some (.int 1)) (nvr Bd.returns)
 refine ⟨_, _, pre0 _ ?_, hrun, hended, _, _, rfl, ?_, ⟨_, rfl⟩, hW, hsame.mono (by decide) (by decide)⟩
 ·skip
  show SS p e below s₁ m 0 #[vI 59] [] _
  refine XS.iloadN X0.here hx rfl (hb hby d18_0) rfl ?_
  refine XS.ifNo X0.here hx rfl (hb hby d18_1) rfl ((if0 _ _).trans (flt (by decide : ¬ ((59 : Int32) < (0 : Int32)))).1) ?_
  refine XS.iloadN X0.here hx rfl (hb hby d18_4) rfl ?_
  refine XS.sipush X0.here hx rfl (hb hby d18_5) ?_
  refine XS.icmpNo X0.here hx rfl (hb hby d18_8) rfl (flt (by decide : ¬ ((255 : Int32) < (59 : Int32)))).2.2.1 ?_
  refine XS.iconst X0.here hx rfl (hb hby d18_11) ?_
  refine XS.goto X0.here hx rfl (pc0 := 12) (pc' := 16) rfl (hb hby d18_12) (by decide) (by decide) ?_
  show SS p e below s₁ m 16 #[vI 59] [(.int 1)] _
  exact retN X0 hx (t := .boolean) Bd.returns (by simp) (hb hby d18_16) hr
 ·show Q_rmCe Z  h0 n0 _ s₁.heap _
  rw [e0]
  exact ⟨rfl, N0, rfl⟩
theorem d21_7 : DK cD11 7 (.iload 5) 2 := by decide +kernel
theorem d21_9 : DK cD11 9 (.iload_n 3) 1 := by decide +kernel
theorem d21_10 : DK cD11 10 (.if_icmp .ge 21) 3 := by decide +kernel
theorem d21_13 : DK cD11 13 (.aload_n 0) 1 := by decide +kernel
theorem d21_14 : DK cD11 14 (.iload 5) 2 := by decide +kernel
theorem d21_16 : DK cD11 16 (.baload) 1 := by decide +kernel
theorem d21_17 : DK cD11 17 (.iload 4) 2 := by decide +kernel
theorem d21_19 : DK cD11 19 (.if_icmp .ne 6) 3 := by decide +kernel
theorem d21_25 : DK cD11 25 (.iinc 5 1) 3 := by decide +kernel
theorem d21_28 : DK cD11 28 (.goto (-21)) 3 := by decide +kernel
theorem tnIx {p : Program} {l : Launch} {e : Env} {s : State} {m : MethodId} {args : Array Value} {below : List Frame} {meth : Method} {c : Code} {T0 : State} {locs : List Loc} {Z : State} {a0 : Array Value} {h0 : Heap} {n0 : Nat} (a1 : Addr) (bs : List Int32) (k1 : ClassId) (j : Nat)
  (X0 : Stand p l e (Rm 0 0 0 0) s m args below meth c T0 locs 0 0) (hx : p.tables.exec = Jvm.exec) (hZ : Z.Warmed39 s.vm) (hw : HW a0 Z) (hby : c.code = jdk_43_method_23_code) (hml : c.maxLocals = 6) (hown : s.vm.findClass "java/lang/StringLatin1" = some m.cls) (e0 : T0.heap = h0) (O0 : Old Z n0 h0) (N0 : Fr n0 locs) (V1 : Arv Z h0 a1 k1 .byte (Int32.ofNat bs.length) (bs.map Value.int) (.int 0)) (hn : bs.length ≤ 40) (hj : j < bs.length) (hb0 : ¬ ((bs.getD j 0) = (59 : Int32))) :
  ∃ (T' : State) (h' : Heap) (L' : List Loc), Stand p l e (Rm 0 0 0 0) s m args below meth c T' L' 0 0 ∧ T'.heap = h' ∧ Fr n0 L' ∧ h' = h0 ∧ ∀ target, SS p e below T' m 7 #[vR a1, vI 59, vI 0, vI (Int32.ofNat bs.length), vI 59, vI (Int32.ofNat (j + 1))] [] target → SS p e below T0 m 7 #[vR a1, vI 59, vI 0, vI (Int32.ofNat bs.length), vI 59, vI (Int32.ofNat j)] [] target := by
 have hn0 : n0 ≤ h0.size := O0.1 ▸ O0.2.1
 have pre0 : ∀ t, SS p e below T0 m 7 #[vR a1, vI 59, vI 0, vI (Int32.ofNat bs.length), vI 59, vI (Int32.ofNat j)] [] t → SS p e below T0 m 7 #[vR a1, vI 59, vI 0, vI (Int32.ofNat bs.length), vI 59, vI (Int32.ofNat j)] [] t := fun t k => k
 have hj31 : j < 2 ^ 31 := by omega
 have hn31 : bs.length < 2 ^ 31 := by omega
 obtain ⟨cl101, Ar101, q101, S101, Nn101, H101, G101⟩ := id V1
 have hat101 : cl101.slots[((Int32.ofNat j)).toNatClampNeg]? = some (.int (bs.getD j 0)) := (Has.at H101 (inb_of S101 ⟨own_nn hj31, (own_lt hj31 hn31).mpr hj⟩) (own_getD _ hj hj31))
 refine ⟨T0, h0, _, X0, e0, N0, rfl, fun target kt => pre0 _ ?_⟩
 show SS p e below T0 m 7 #[vR a1, vI 59, vI 0, vI (Int32.ofNat bs.length), vI 59, vI (Int32.ofNat j)] [] _
 refine XS.iload X0.here hx rfl (hb hby d21_7) rfl ?_
 refine XS.iloadN X0.here hx rfl (hb hby d21_9) rfl ?_
 refine XS.icmpNo X0.here hx rfl (hb hby d21_10) rfl (tlt ((own_lt hj31 hn31).mpr hj : (Int32.ofNat j) < (Int32.ofNat bs.length))).2.1 ?_
 refine XS.aloadN X0.here hx rfl (hb hby d21_13) rfl rfl ?_
 refine XS.iload X0.here hx rfl (hb hby d21_14) rfl ?_
 show SS p e below T0 m 16 #[vR a1, vI 59, vI 0, vI (Int32.ofNat bs.length), vI 59, vI (Int32.ofNat j)] [(.int (Int32.ofNat j)), (.ref a1)] _
 refine X0.baloadBytes hx (j := (Int32.ofNat j)) (v := (.int (bs.getD j 0))) (by rw [e0]; exact Ar101.1) (State.isArrayOf_alike hZ.alike Ar101.2.1) Ar101.2.2 (inb_of S101 ⟨own_nn hj31, (own_lt hj31 hn31).mpr hj⟩) hat101 (g := (mkF m 16 #[vR a1, vI 59, vI 0, vI (Int32.ofNat bs.length), vI 59, vI (Int32.ofNat j)] [(.int (Int32.ofNat j)), (.ref a1)])) rfl rfl (hb hby d21_16) _ ?_
 refine XS.iload X0.here hx rfl (hb hby d21_17) rfl ?_
 refine XS.icmpYes X0.here hx rfl (pc0 := 19) (pc' := 25) rfl (hb hby d21_19) rfl (feq (hb0 : ¬ ((bs.getD j 0) = (59 : Int32)))).2 (by decide) (by decide) ?_
 refine XS.iinc X0.here hx rfl (hb hby d21_25) rfl (l' := #[vR a1, vI 59, vI 0, vI (Int32.ofNat bs.length), vI 59, vI ((Int32.ofNat j) + (1 : Int32))]) rfl ?_
 refine XS.goto X0.here hx rfl (pc0 := 28) (pc' := 7) rfl (hb hby d21_28) (by decide) (by decide) ?_
 show SS p e below T0 m 7 #[vR a1, vI 59, vI 0, vI (Int32.ofNat bs.length), vI 59, vI ((Int32.ofNat j) + (1 : Int32))] [] _
 rw [own_succ j]
 exact kt
theorem lpIx {p : Program} {l : Launch} {e : Env} {s : State} {m : MethodId} {args : Array Value} {below : List Frame} {meth : Method} {c : Code} {T0 : State} {locs : List Loc} {Z : State} {a0 : Array Value} {h0 : Heap} {n0 : Nat} (a1 : Addr) (bs : List Int32) (k1 : ClassId) (M : Nat) (X0 : Stand p l e (Rm 0 0 0 0) s m args below meth c T0 locs 0 0) (hx : p.tables.exec = Jvm.exec) (hZ : Z.Warmed39 s.vm) (hw : HW a0 Z) (hby : c.code = jdk_43_method_23_code) (hml : c.maxLocals = 6) (hown : s.vm.findClass "java/lang/StringLatin1" = some m.cls) (e0 : T0.heap = h0) (O0 : Old Z n0 h0) (N0 : Fr n0 locs) (V1 : Arv Z h0 a1 k1 .byte (Int32.ofNat bs.length) (bs.map Value.int) (.int 0)) (hn : bs.length ≤ 40) (hM : M ≤ bs.length) (hpre : ∀ j, j < M → ¬ ((bs.getD j 0) = (59 : Int32))) :
  ∀ j, j ≤ M → ∃ (T' : State) (L' : List Loc), Stand p l e (Rm 0 0 0 0) s m args below meth c T' L' 0 0 ∧ T'.heap = h0 ∧ Fr n0 L' ∧ ∀ target, SS p e below T' m 7 #[vR a1, vI 59, vI 0, vI (Int32.ofNat bs.length), vI 59, vI (Int32.ofNat j)] [] target → SS p e below T0 m 7 #[vR a1, vI 59, vI 0, vI (Int32.ofNat bs.length), vI 59, vI (Int32.ofNat 0)] [] target := by
 intro j
 induction j with
 | zero => exact fun _ => ⟨T0, locs, X0, e0, N0, fun _ k => k⟩
 | succ j ih =>
  intro hj
  obtain ⟨T, L, X, e1, N, st⟩ := ih (by omega)
  obtain ⟨T2, h2, L2, X2, e2, N2, rfl, st2⟩ := tnIx a1 bs k1 j X hx hZ hw hby hml hown e1 O0 N V1 hn (by omega) (hpre j (by omega))
  exact ⟨T2, L2, X2, e2, N2, fun t k => st _ (st2 _ k)⟩
theorem d21_0 : DK cD11 0 (.iload_n 1) 1 := by decide +kernel
theorem d21_1 : DK cD11 1 (.i2b) 1 := by decide +kernel
theorem d21_2 : DK cD11 2 (.istore 4) 2 := by decide +kernel
theorem d21_4 : DK cD11 4 (.iload_n 2) 1 := by decide +kernel
theorem d21_5 : DK cD11 5 (.istore 5) 2 := by decide +kernel
theorem d21_22 : DK cD11 22 (.iload 5) 2 := by decide +kernel
theorem d21_24 : DK cD11 24 (.ireturn) 1 := by decide +kernel
theorem d21_31 : DK cD11 31 (.iconst (-1)) 1 := by decide +kernel
theorem d21_32 : DK cD11 32 (.ireturn) 1 := by decide +kernel
theorem ef_rmIx (m : MethodId) (y0 : Addr) (y1 : Int32) : entryFrame m #[(.ref y0), (.int 59), (.int 0), (.int y1)] 6 = (mkF m 0 #[vR y0, vI 59, vI 0, vI y1, .unset, .unset] []) := by first | (simp [entryFrame, mkF, argsToLocals, Value.category]; done) | rfl
def Q_rmIx (Z : State) (a1 : Addr) (bs : List Int32) (k1 : ClassId) (m1 : Nat) (h0 : Heap) (n0 : Nat) (v : Option Value) (h : Heap) (L : List Loc) : Prop := v = some (.int (if m1 < bs.length then Int32.ofNat m1 else (-1 : Int32))) ∧ Fr n0 L ∧ h = h0
theorem rmIx (l : Launch) (Z : State) (a0 : Array Value) (hw : HW a0 Z) (ws : List Jvm.Cond) (a1 : Addr) (bs : List Int32) (k1 : ClassId) (m1 : Nat) (h0 : Heap) (n0 : Nat) (O0 : Old Z n0 h0) (V1 : Arv Z h0 a1 k1 .byte (Int32.ofNat bs.length) (bs.map Value.int) (.int 0)) (hn : bs.length ≤ 40) (hm : m1 ≤ bs.length) (hpre : ∀ j, j < m1 → ¬ ((bs.getD j 0) = (59 : Int32))) (hend : m1 < bs.length → (bs.getD m1 0) = (59 : Int32)) :
  MF l mN11 jdk_43_method_23_code 6 (some .int) ws (Rm 0 0 0 0) Z #[(.ref a1), (.int 59), (.int 0), (.int (Int32.ofNat bs.length))] h0 (Q_rmIx Z a1 bs k1 m1 h0 n0) := by
 refine MetFree.of_bodySF (plainFor_of_name pn_3) hisR ?_
 intro p e s m args below meth c s₁ Bd hml0 hP hK
 obtain ⟨rfl, hZ, hh⟩ := hP
 have hx := Bd.exec
 have hby := Bd.bytes
 have hml : c.maxLocals = 6 := hml0
 have hown : s.vm.findClass "java/lang/StringLatin1" = some m.cls := findClass_of_methodNamed Bd.named
 have X0 : Stand p l e (Rm 0 0 0 0) s m #[(.ref a1), (.int 59), (.int 0), (.int (Int32.ofNat bs.length))] below meth c s₁ [] 0 0 := Stand.of_body Bd
 have e0 : s₁.heap = h0 := by rw [← hh, Bd.state]; rfl
 have N0 := Fr.nil n0
 have hn0 : n0 ≤ h0.size := O0.1 ▸ O0.2.1
 have pre0 : ∀ t, SS p e below s₁ m 0 #[vR a1, vI 59, vI 0, vI (Int32.ofNat bs.length), .unset, .unset] [] t → SE p e below s₁ m #[(.ref a1), (.int 59), (.int 0), (.int (Int32.ofNat bs.length))] 6 t := fun t k => castTop (ef_rmIx m a1 ((Int32.ofNat bs.length))) k
 have hj31 : m1 < 2 ^ 31 := by omega
 have hn31 : bs.length < 2 ^ 31 := by omega
 have hr101 : ((59 : Int32).toInt8.toInt32) = (59 : Int32) := by decide
 have pre102 : ∀ t, SS p e below s₁ m 7 #[vR a1, vI 59, vI 0, vI (Int32.ofNat bs.length), vI 59, vI 0] [] t → SE p e below s₁ m #[(.ref a1), (.int 59), (.int 0), (.int (Int32.ofNat bs.length))] 6 t := by
  intro t kt
  refine pre0 _ ?_
  show SS p e below s₁ m 0 #[vR a1, vI 59, vI 0, vI (Int32.ofNat bs.length), .unset, .unset] [] _
  refine XS.iloadN X0.here hx rfl (hb hby d21_0) rfl ?_
  refine XS.i2b X0.here hx rfl (hb hby d21_1) rfl ?_
  show SS p e below s₁ m 2 #[vR a1, vI 59, vI 0, vI (Int32.ofNat bs.length), .unset, .unset] [(.int ((59 : Int32).toInt8.toInt32))] _
  rw [hr101]
  refine XS.istore X0.here hx rfl (hb hby d21_2) rfl (l' := #[vR a1, vI 59, vI 0, vI (Int32.ofNat bs.length), vI 59, .unset]) rfl ?_
  refine XS.iloadN X0.here hx rfl (hb hby d21_4) rfl ?_
  refine XS.istore X0.here hx rfl (hb hby d21_5) rfl (l' := #[vR a1, vI 59, vI 0, vI (Int32.ofNat bs.length), vI 59, vI 0]) rfl ?_
  exact kt
 obtain ⟨T103, L103, X103, e103, N103, st103⟩ := lpIx a1 bs k1 m1 X0 hx hZ hw hby hml hown e0 O0 N0 V1 hn hm hpre m1 (Nat.le_refl _)
 have pre105 : ∀ t, SS p e below T103 m 10 #[vR a1, vI 59, vI 0, vI (Int32.ofNat bs.length), vI 59, vI (Int32.ofNat m1)] [(.int (Int32.ofNat bs.length)), (.int (Int32.ofNat m1))] t → SE p e below s₁ m #[(.ref a1), (.int 59), (.int 0), (.int (Int32.ofNat bs.length))] 6 t := by
  intro t kt
  refine pre102 _ ?_
  refine st103 _ ?_
  show SS p e below T103 m 7 #[vR a1, vI 59, vI 0, vI (Int32.ofNat bs.length), vI 59, vI (Int32.ofNat m1)] [] _
  refine XS.iload X103.here hx rfl (hb hby d21_7) rfl ?_
  refine XS.iloadN X103.here hx rfl (hb hby d21_9) rfl ?_
  exact kt
 by_cases hc104 : (Int32.ofNat m1) < (Int32.ofNat bs.length)
 ·skip
  have hj : m1 < bs.length := (own_lt hj31 hn31).mp hc104
  obtain ⟨cl106, Ar106, q106, S106, Nn106, H106, G106⟩ := id V1
  have hat106 : cl106.slots[((Int32.ofNat m1)).toNatClampNeg]? = some (.int (bs.getD m1 0)) := (Has.at H106 (inb_of S106 ⟨own_nn hj31, (own_lt hj31 hn31).mpr hj⟩) (own_getD _ hj hj31))
  obtain ⟨fs, hr, hrun, hended, hW, hsame⟩ := X103.leave (v := some (.int (Int32.ofNat m1))) (nvr Bd.returns)
  refine ⟨_, _, pre105 _ ?_, hrun, hended, _, _, rfl, ?_, ⟨_, rfl⟩, hW, hsame.mono (by decide) (by decide)⟩
  ·skip
   show SS p e below T103 m 10 #[vR a1, vI 59, vI 0, vI (Int32.ofNat bs.length), vI 59, vI (Int32.ofNat m1)] [(.int (Int32.ofNat bs.length)), (.int (Int32.ofNat m1))] _
   refine XS.icmpNo X103.here hx rfl (hb hby d21_10) rfl (tlt hc104).2.1 ?_
   refine XS.aloadN X103.here hx rfl (hb hby d21_13) rfl rfl ?_
   refine XS.iload X103.here hx rfl (hb hby d21_14) rfl ?_
   show SS p e below T103 m 16 #[vR a1, vI 59, vI 0, vI (Int32.ofNat bs.length), vI 59, vI (Int32.ofNat m1)] [(.int (Int32.ofNat m1)), (.ref a1)] _
   refine X103.baloadBytes hx (j := (Int32.ofNat m1)) (v := (.int (bs.getD m1 0))) (by rw [e103]; exact Ar106.1) (State.isArrayOf_alike hZ.alike Ar106.2.1) Ar106.2.2 (inb_of S106 ⟨own_nn hj31, (own_lt hj31 hn31).mpr hj⟩) hat106 (g := (mkF m 16 #[vR a1, vI 59, vI 0, vI (Int32.ofNat bs.length), vI 59, vI (Int32.ofNat m1)] [(.int (Int32.ofNat m1)), (.ref a1)])) rfl rfl (hb hby d21_16) _ ?_
   refine XS.iload X103.here hx rfl (hb hby d21_17) rfl ?_
   refine XS.icmpNo X103.here hx rfl (hb hby d21_19) rfl (teq (hend hj : (bs.getD m1 0) = (59 : Int32))).2 ?_
   refine XS.iload X103.here hx rfl (hb hby d21_22) rfl ?_
   show SS p e below T103 m 24 #[vR a1, vI 59, vI 0, vI (Int32.ofNat bs.length), vI 59, vI (Int32.ofNat m1)] [(.int (Int32.ofNat m1))] _
   exact retI X103 hx Bd.returns (hb hby d21_24) hr
  ·show Q_rmIx Z a1 bs k1 m1 h0 n0 _ T103.heap _
   rw [e103]
   exact ⟨by rw [if_pos hj], N103, rfl⟩
 ·skip
  obtain ⟨fs, hr, hrun, hended, hW, hsame⟩ := X103.leave (v := some (.int (-1 : Int32))) (nvr Bd.returns)
  refine ⟨_, _, pre105 _ ?_, hrun, hended, _, _, rfl, ?_, ⟨_, rfl⟩, hW, hsame.mono (by decide) (by decide)⟩
  ·skip
   show SS p e below T103 m 10 #[vR a1, vI 59, vI 0, vI (Int32.ofNat bs.length), vI 59, vI (Int32.ofNat m1)] [(.int (Int32.ofNat bs.length)), (.int (Int32.ofNat m1))] _
   refine XS.icmpYes X103.here hx rfl (pc0 := 10) (pc' := 31) rfl (hb hby d21_10) rfl (flt hc104).2.1 (by decide) (by decide) ?_
   refine XS.iconst X103.here hx rfl (hb hby d21_31) ?_
   show SS p e below T103 m 32 #[vR a1, vI 59, vI 0, vI (Int32.ofNat bs.length), vI 59, vI (Int32.ofNat m1)] [(.int (-1 : Int32))] _
   exact retI X103 hx Bd.returns (hb hby d21_32) hr
  ·show Q_rmIx Z a1 bs k1 m1 h0 n0 _ T103.heap _
   rw [e103]
   exact ⟨by rw [if_neg (fun q => hc104 ((own_lt hj31 hn31).mpr q))], N103, rfl⟩
theorem d17_0 : DK cD12 0 (.iload_n 1) 1 := by decide +kernel
theorem d17_1 : DK cD12 1 (.invokestatic 88) 3 := by decide +kernel
theorem d17_4 : DK cD12 4 (.ifCond .ne 5) 3 := by decide +kernel
theorem d17_9 : DK cD12 9 (.iload_n 2) 1 := by decide +kernel
theorem d17_10 : DK cD12 10 (.iconst 0) 1 := by decide +kernel
theorem d17_11 : DK cD12 11 (.invokestatic 92) 3 := by decide +kernel
theorem d17_14 : DK cD12 14 (.istore_n 2) 1 := by decide +kernel
theorem d17_15 : DK cD12 15 (.iload_n 3) 1 := by decide +kernel
theorem d17_16 : DK cD12 16 (.aload_n 0) 1 := by decide +kernel
theorem d17_17 : DK cD12 17 (.arraylength) 1 := by decide +kernel
theorem d17_18 : DK cD12 18 (.invokestatic 38) 3 := by decide +kernel
theorem d17_21 : DK cD12 21 (.istore_n 3) 1 := by decide +kernel
theorem d17_22 : DK cD12 22 (.iload_n 2) 1 := by decide +kernel
theorem d17_23 : DK cD12 23 (.iload_n 3) 1 := by decide +kernel
theorem d17_24 : DK cD12 24 (.if_icmp .lt 5) 3 := by decide +kernel
theorem d17_29 : DK cD12 29 (.aload_n 0) 1 := by decide +kernel
theorem d17_30 : DK cD12 30 (.iload_n 1) 1 := by decide +kernel
theorem d17_31 : DK cD12 31 (.iload_n 2) 1 := by decide +kernel
theorem d17_32 : DK cD12 32 (.iload_n 3) 1 := by decide +kernel
theorem d17_33 : DK cD12 33 (.invokestatic 95) 3 := by decide +kernel
theorem d17_36 : DK cD12 36 (.ireturn) 1 := by decide +kernel
theorem pd_17 : parseMethodDescriptor "(I)Z" = some ⟨[.int], some .boolean⟩ := by decide +kernel
theorem pd_13 : parseMethodDescriptor "(II)I" = some ⟨[.int, .int], some .int⟩ := by decide +kernel
theorem pd_16 : parseMethodDescriptor "([BIII)I" = some ⟨[(.array .byte), .int, .int, .int], some .int⟩ := by decide +kernel
theorem ef_rmLix (m : MethodId) (y0 : Addr) (y1 : Int32) : entryFrame m #[(.ref y0), (.int 59), (.int 0), (.int y1)] 4 = (mkF m 0 #[vR y0, vI 59, vI 0, vI y1] []) := by first | (simp [entryFrame, mkF, argsToLocals, Value.category]; done) | rfl
def Q_rmLix (Z : State) (a1 : Addr) (bs : List Int32) (k1 : ClassId) (m1 : Nat) (h0 : Heap) (n0 : Nat) (v : Option Value) (h : Heap) (L : List Loc) : Prop := v = some (.int (if m1 < bs.length then Int32.ofNat m1 else (-1 : Int32))) ∧ Fr n0 L ∧ h = h0
theorem rmLix (l : Launch) (Z : State) (a0 : Array Value) (hw : HW a0 Z) (ws : List Jvm.Cond) (a1 : Addr) (bs : List Int32) (k1 : ClassId) (m1 : Nat) (h0 : Heap) (n0 : Nat) (O0 : Old Z n0 h0) (V1 : Arv Z h0 a1 k1 .byte (Int32.ofNat bs.length) (bs.map Value.int) (.int 0)) (hn : bs.length ≤ 40) (hm : m1 ≤ bs.length) (hpre : ∀ j, j < m1 → ¬ ((bs.getD j 0) = (59 : Int32))) (hend : m1 < bs.length → (bs.getD m1 0) = (59 : Int32)) (h0n : 0 < bs.length) :
  MF l mN12 jdk_43_method_22_code 4 (some .int) ws (Rm 1 0 0 24) Z #[(.ref a1), (.int 59), (.int 0), (.int (Int32.ofNat bs.length))] h0 (Q_rmLix Z a1 bs k1 m1 h0 n0) := by
 refine MetFree.of_bodySF (plainFor_of_name pn_3) hisR ?_
 intro p e s m args below meth c s₁ Bd hml0 hP hK
 obtain ⟨rfl, hZ, hh⟩ := hP
 have hx := Bd.exec
 have hby := Bd.bytes
 have hml : c.maxLocals = 4 := hml0
 have hown : s.vm.findClass "java/lang/StringLatin1" = some m.cls := findClass_of_methodNamed Bd.named
 have X0 : Stand p l e (Rm 1 0 0 24) s m #[(.ref a1), (.int 59), (.int 0), (.int (Int32.ofNat bs.length))] below meth c s₁ [] 0 0 := Stand.of_body Bd
 have e0 : s₁.heap = h0 := by rw [← hh, Bd.state]; rfl
 have N0 := Fr.nil n0
 have hn0 : n0 ≤ h0.size := O0.1 ▸ O0.2.1
 have pre0 : ∀ t, SS p e below s₁ m 0 #[vR a1, vI 59, vI 0, vI (Int32.ofNat bs.length)] [] t → SE p e below s₁ m #[(.ref a1), (.int 59), (.int 0), (.int (Int32.ofNat bs.length))] 4 t := fun t k => castTop (ef_rmLix m a1 ((Int32.ofNat bs.length))) k
 have hj31 : m1 < 2 ^ 31 := by omega
 have hn31 : bs.length < 2 ^ 31 := by omega
 obtain ⟨_, _, ⟨T101, L101, k101, n101⟩, -, X101, ⟨Lc101, hQ101, l101, y101, z101⟩, st101⟩ := Jvm.LawKit.callS X0 hx (y := mN10) hown (mvT hZ (tw hw 83 rfl)) (mvT hZ (tw hw 84 rfl)) (mvT hZ (tw hw 24 rfl)) (mvT hZ (tw hw 85 rfl)) (by decide) (backOf (W := 0) (rmCe l Z a0 hw []   h0 n0 O0 ) hZ (tw hw 85 rfl) (tw hw 24 rfl) (by decide) (by decide)) (g := (mkF m 1 #[vR a1, vI 59, vI 0, vI (Int32.ofNat bs.length)] [(.int 59)])) rfl (by rw [hml]; rfl) (argsL := [(.int 59)]) (rest := []) (lenOf pd_17 rfl) rfl (wL _) (hb hby d17_1) (fun _ _ => ⟨rfl, e0, (by decide : 0 + 0 ≤ _), (by decide : 0 + 0 ≤ _)⟩)
 dsimp only [Pt.U, Pt.locs, Pt.cells, Pt.slots] at X101 l101 y101 z101 st101 hQ101
 rw [l101] at X101
 subst y101 z101
 obtain ⟨rfl, N101q, H101⟩ := hQ101
 have N101 := Fr.app N0 N101q
 obtain ⟨_, _, ⟨T102, L102, k102, n102⟩, -, X102, ⟨Lc102, hQ102, l102, y102, z102⟩, st102⟩ := Jvm.LawKit.callS X101 hx (y := mN3) hown (mvT hZ (tw hw 86 rfl)) (mvT hZ (tw hw 87 rfl)) (mvT hZ (tw hw 88 rfl)) (mvT hZ (tw hw 89 rfl)) (by decide) (backOf (W := 0) (rmMmax l Z a0 hw [] (0 : Int32) (0 : Int32)  h0 n0 O0 ) hZ (tw hw 89 rfl) (tw hw 88 rfl) (by decide) (by decide)) (g := (mkF m 11 #[vR a1, vI 59, vI 0, vI (Int32.ofNat bs.length)] [(.int 0), (.int 0)])) rfl (by rw [hml]; rfl) (argsL := [(.int 0), (.int 0)]) (rest := []) (lenOf pd_13 rfl) rfl (wL _) (hb hby d17_11) (fun _ _ => ⟨rfl, H101, (by decide : 0 + 0 ≤ _), (by decide : 0 + 0 ≤ _)⟩)
 dsimp only [Pt.U, Pt.locs, Pt.cells, Pt.slots] at X102 l102 y102 z102 st102 hQ102
 rw [l102] at X102
 subst y102 z102
 obtain ⟨rfl, N102q, H102⟩ := hQ102
 have N102 := Fr.app N101 N102q
 have hr103 : (jmax (0 : Int32) (0 : Int32)) = (0 : Int32) := by decide
 obtain ⟨cl104, Ar104, q104, S104, Nn104, H104, G104⟩ := id V1
 obtain ⟨_, _, ⟨T105, L105, k105, n105⟩, -, X105, ⟨Lc105, hQ105, l105, y105, z105⟩, st105⟩ := Jvm.LawKit.callS X102 hx (y := mN4) hown (mvT hZ (tw hw 90 rfl)) (mvT hZ (tw hw 91 rfl)) (mvT hZ (tw hw 88 rfl)) (mvT hZ (tw hw 92 rfl)) (by decide) (backOf (W := 0) (rmMmin l Z a0 hw [] (Int32.ofNat bs.length) (Int32.ofNat bs.length)  h0 n0 O0 ) hZ (tw hw 92 rfl) (tw hw 88 rfl) (by decide) (by decide)) (g := (mkF m 18 #[vR a1, vI 59, vI 0, vI (Int32.ofNat bs.length)] [(.int (Int32.ofNat bs.length)), (.int (Int32.ofNat bs.length))])) rfl (by rw [hml]; rfl) (argsL := [(.int (Int32.ofNat bs.length)), (.int (Int32.ofNat bs.length))]) (rest := []) (lenOf pd_13 rfl) rfl (wL _) (hb hby d17_18) (fun _ _ => ⟨rfl, H102, (by decide : 0 + 0 ≤ _), (by decide : 0 + 0 ≤ _)⟩)
 dsimp only [Pt.U, Pt.locs, Pt.cells, Pt.slots] at X105 l105 y105 z105 st105 hQ105
 rw [l105] at X105
 subst y105 z105
 obtain ⟨rfl, N105q, H105⟩ := hQ105
 have N105 := Fr.app N102 N105q
 have hr106 : (jmin (Int32.ofNat bs.length) (Int32.ofNat bs.length)) = (Int32.ofNat bs.length) := own_jmin2 (Nat.le_refl _) hn31
 obtain ⟨_, _, ⟨T107, L107, k107, n107⟩, -, X107, ⟨Lc107, hQ107, l107, y107, z107⟩, st107⟩ := Jvm.LawKit.callS X105 hx (y := mN11) hown (mvT hZ (tw hw 93 rfl)) (mvT hZ (tw hw 94 rfl)) (mvT hZ (tw hw 24 rfl)) (mvT hZ (tw hw 95 rfl)) (by decide) (backOf (W := 0) (rmIx l Z a0 hw [] a1 bs k1 m1 h0 n0 O0 V1 hn hm hpre hend) hZ (tw hw 95 rfl) (tw hw 24 rfl) (by decide) (by decide)) (g := (mkF m 33 #[vR a1, vI 59, vI 0, vI (Int32.ofNat bs.length)] [(.int (Int32.ofNat bs.length)), (.int 0), (.int 59), (.ref a1)])) rfl (by rw [hml]; rfl) (argsL := [(.ref a1), (.int 59), (.int 0), (.int (Int32.ofNat bs.length))]) (rest := []) (lenOf pd_16 rfl) rfl (wL _) (hb hby d17_33) (fun _ _ => ⟨rfl, H105, (by decide : 0 + 0 ≤ _), (by decide : 0 + 0 ≤ _)⟩)
 dsimp only [Pt.U, Pt.locs, Pt.cells, Pt.slots] at X107 l107 y107 z107 st107 hQ107
 rw [l107] at X107
 subst y107 z107
 obtain ⟨rfl, N107q, H107⟩ := hQ107
 have N107 := Fr.app N105 N107q
 obtain ⟨fs, hr, hrun, hended, hW, hsame⟩ := X107.leave (v := some (.int (if m1 < bs.length then Int32.ofNat m1 else (-1 : Int32)))) (nvr Bd.returns)
 refine ⟨_, _, pre0 _ ?_, hrun, hended, _, _, rfl, ?_, ⟨_, rfl⟩, hW, hsame.mono (by decide) (by decide)⟩
 ·skip
  show SS p e below s₁ m 0 #[vR a1, vI 59, vI 0, vI (Int32.ofNat bs.length)] [] _
  refine XS.iloadN X0.here hx rfl (hb hby d17_0) rfl ?_
  show SS p e below s₁ m 1 #[vR a1, vI 59, vI 0, vI (Int32.ofNat bs.length)] [(.int 59)] _
  refine st101 _ ?_
  refine XS.ifYes X101.here hx rfl (pc0 := 4) (pc' := 9) rfl (hb hby d17_4) rfl ((if0 _ _).trans (feq (by decide : ¬ ((1 : Int32) = (0 : Int32)))).2) (by decide) (by decide) ?_
  refine XS.iloadN X101.here hx rfl (hb hby d17_9) rfl ?_
  refine XS.iconst X101.here hx rfl (hb hby d17_10) ?_
  show SS p e below T101 m 11 #[vR a1, vI 59, vI 0, vI (Int32.ofNat bs.length)] [(.int 0), (.int 0)] _
  refine st102 _ ?_
  show SS p e below T102 m 14 #[vR a1, vI 59, vI 0, vI (Int32.ofNat bs.length)] [(.int (jmax (0 : Int32) (0 : Int32)))] _
  rw [hr103]
  refine XS.istoreN X102.here hx rfl (hb hby d17_14) rfl (l' := #[vR a1, vI 59, vI 0, vI (Int32.ofNat bs.length)]) rfl ?_
  refine XS.iloadN X102.here hx rfl (hb hby d17_15) rfl ?_
  refine XS.aloadN X102.here hx rfl (hb hby d17_16) rfl rfl ?_
  show SS p e below T102 m 17 #[vR a1, vI 59, vI 0, vI (Int32.ofNat bs.length)] [(.ref a1), (.int (Int32.ofNat bs.length))] _
  refine X102.arraylength hx (by rw [H102]; exact Ar104.1) (State.isArrayOf_alike hZ.alike Ar104.2.1) (g := (mkF m 17 #[vR a1, vI 59, vI 0, vI (Int32.ofNat bs.length)] [(.ref a1), (.int (Int32.ofNat bs.length))])) rfl rfl (hb hby d17_17) _ ?_
  rw [len_of S104 Nn104]
  show SS p e below T102 m 18 #[vR a1, vI 59, vI 0, vI (Int32.ofNat bs.length)] [(.int (Int32.ofNat bs.length)), (.int (Int32.ofNat bs.length))] _
  refine st105 _ ?_
  show SS p e below T105 m 21 #[vR a1, vI 59, vI 0, vI (Int32.ofNat bs.length)] [(.int (jmin (Int32.ofNat bs.length) (Int32.ofNat bs.length)))] _
  rw [hr106]
  refine XS.istoreN X105.here hx rfl (hb hby d17_21) rfl (l' := #[vR a1, vI 59, vI 0, vI (Int32.ofNat bs.length)]) rfl ?_
  refine XS.iloadN X105.here hx rfl (hb hby d17_22) rfl ?_
  refine XS.iloadN X105.here hx rfl (hb hby d17_23) rfl ?_
  refine XS.icmpYes X105.here hx rfl (pc0 := 24) (pc' := 29) rfl (hb hby d17_24) rfl (tlt ((own_lt (i := 0) (by decide) hn31).mpr h0n : (0 : Int32) < (Int32.ofNat bs.length))).1 (by decide) (by decide) ?_
  refine XS.aloadN X105.here hx rfl (hb hby d17_29) rfl rfl ?_
  refine XS.iloadN X105.here hx rfl (hb hby d17_30) rfl ?_
  refine XS.iloadN X105.here hx rfl (hb hby d17_31) rfl ?_
  refine XS.iloadN X105.here hx rfl (hb hby d17_32) rfl ?_
  show SS p e below T105 m 33 #[vR a1, vI 59, vI 0, vI (Int32.ofNat bs.length)] [(.int (Int32.ofNat bs.length)), (.int 0), (.int 59), (.ref a1)] _
  refine st107 _ ?_
  show SS p e below T107 m 36 #[vR a1, vI 59, vI 0, vI (Int32.ofNat bs.length)] [(.int (if m1 < bs.length then Int32.ofNat m1 else (-1 : Int32)))] _
  exact retI X107 hx Bd.returns (hb hby d17_36) hr
 ·show Q_rmLix Z a1 bs k1 m1 h0 n0 _ T107.heap _
  rw [H107]
  exact ⟨rfl, N107, rfl⟩
theorem d14_0 : DK cD13 0 (.aload_n 0) 1 := by decide +kernel
theorem d14_1 : DK cD13 1 (.invokevirtual 492) 3 := by decide +kernel
theorem d14_4 : DK cD13 4 (.ifCond .eq 19) 3 := by decide +kernel
theorem d14_7 : DK cD13 7 (.aload_n 0) 1 := by decide +kernel
theorem d14_8 : DK cD13 8 (.getfield 9) 3 := by decide +kernel
theorem d14_11 : DK cD13 11 (.iload_n 1) 1 := by decide +kernel
theorem d14_12 : DK cD13 12 (.iload_n 2) 1 := by decide +kernel
theorem d14_13 : DK cD13 13 (.aload_n 0) 1 := by decide +kernel
theorem d14_14 : DK cD13 14 (.invokevirtual 505) 3 := by decide +kernel
theorem d14_17 : DK cD13 17 (.invokestatic 637) 3 := by decide +kernel
theorem d14_20 : DK cD13 20 (.goto 16) 3 := by decide +kernel
theorem d14_36 : DK cD13 36 (.ireturn) 1 := by decide +kernel
theorem pd_14 : parseMethodDescriptor "()I" = some ⟨[], some .int⟩ := by decide +kernel
theorem ef_rmIx2 (m : MethodId) (y0 : Addr) : entryFrame m #[(.ref y0), (.int 59), (.int 0)] 3 = (mkF m 0 #[vR y0, vI 59, vI 0] []) := by first | (simp [entryFrame, mkF, argsToLocals, Value.category]; done) | rfl
def Q_rmIx2 (Z : State) (a1 : Addr) (bs : List Int32) (cs0 : Int32) (t1 : Addr) (k1 : ClassId) (m1 : Nat) (h0 : Heap) (n0 : Nat) (v : Option Value) (h : Heap) (L : List Loc) : Prop := v = some (.int (if m1 < bs.length then Int32.ofNat m1 else (-1 : Int32))) ∧ Fr n0 L ∧ h = h0
theorem rmIx2 (l : Launch) (Z : State) (a0 : Array Value) (hw : HW a0 Z) (ws : List Jvm.Cond) (a1 : Addr) (bs : List Int32) (cs0 : Int32) (t1 : Addr) (k1 : ClassId) (m1 : Nat) (h0 : Heap) (n0 : Nat) (O0 : Old Z n0 h0) (S_CS : SCS Z cs0) (c_CS : ¬ (cs0 = (0 : Int32))) (Es : Exa Z h0 a1 "java/lang/String") (Sv : Fld Z h0 a1 "java/lang/String" "value" "[B" (.ref t1)) (Sc : Fld Z h0 a1 "java/lang/String" "coder" "B" (.int 0)) (Vs : Arv Z h0 t1 k1 .byte (Int32.ofNat bs.length) (bs.map Value.int) (.int 0)) (hn : bs.length ≤ 40) (hm : m1 ≤ bs.length) (hpre : ∀ j, j < m1 → ¬ ((bs.getD j 0) = (59 : Int32))) (hend : m1 < bs.length → (bs.getD m1 0) = (59 : Int32)) (h0n : 0 < bs.length) :
  MF l mN13 jdk_42_method_80_code 3 (some .int) ws (Rm 2 0 0 50) Z #[(.ref a1), (.int 59), (.int 0)] h0 (Q_rmIx2 Z a1 bs cs0 t1 k1 m1 h0 n0) := by
 refine MetFree.of_bodySF (plainFor_of_name pn_1) hisR ?_
 intro p e s m args below meth c s₁ Bd hml0 hP hK
 obtain ⟨rfl, hZ, hh⟩ := hP
 have hx := Bd.exec
 have hby := Bd.bytes
 have hml : c.maxLocals = 3 := hml0
 have hown : s.vm.findClass "java/lang/String" = some m.cls := findClass_of_methodNamed Bd.named
 have X0 : Stand p l e (Rm 2 0 0 50) s m #[(.ref a1), (.int 59), (.int 0)] below meth c s₁ [] 0 0 := Stand.of_body Bd
 have e0 : s₁.heap = h0 := by rw [← hh, Bd.state]; rfl
 have N0 := Fr.nil n0
 have hn0 : n0 ≤ h0.size := O0.1 ▸ O0.2.1
 have pre0 : ∀ t, SS p e below s₁ m 0 #[vR a1, vI 59, vI 0] [] t → SE p e below s₁ m #[(.ref a1), (.int 59), (.int 0)] 3 t := fun t k => castTop (ef_rmIx2 m a1) k
 obtain ⟨cq101, kq101, q101a, q101b, q101c⟩ := isOf hZ e0 Es
 obtain ⟨_, _, ⟨T101, L101, k101, n101⟩, -, X101, ⟨Lc101, hQ101, l101, y101, z101⟩, st101⟩ := X0.virtualBack hx (y := mN1) (z := mN1) hown (mvT hZ (tw hw 14 rfl)) (mvT hZ (tw hw 15 rfl)) (notFace_of_selects (args := #[]) (mvT hZ (tw hw 17 rfl))) (mvT hZ (tw hw 17 rfl)) (mvT hZ (tw hw 16 rfl)) (by decide) (backOf (W := 0) (rmIsLat l Z a0 hw [] a1 bs t1 k1 cs0 h0 n0 O0 S_CS c_CS Es Sv Sc Vs hn) hZ (tw hw 18 rfl) (tw hw 1 rfl) (by decide) (by decide)) q101a q101c (g := (mkF m 1 #[vR a1, vI 59, vI 0] [(.ref a1)])) rfl (by rw [hml]; rfl) (Steps.refl _) (argsL := []) (rest := []) (lenOf pd_1 rfl) rfl (wL _) (hb hby d14_1) (fun _ _ => ⟨rfl, e0, (by decide : 0 + 0 ≤ _), (by decide : 0 + 0 ≤ _)⟩)
 dsimp only [Pt.U, Pt.locs, Pt.cells, Pt.slots] at X101 l101 y101 z101 st101 hQ101
 rw [l101] at X101
 subst y101 z101
 obtain ⟨rfl, N101q, H101⟩ := hQ101
 have N101 := Fr.app N0 N101q
 obtain ⟨T102, X102, e102, st102⟩ := getF X101 hx hZ hown (host := "") (Or.inl (tw hw 21 rfl)) Via.refl H101 Sv (g := (mkF m 8 #[vR a1, vI 59, vI 0] [(.ref a1)])) rfl rfl (hb hby d14_8)
 obtain ⟨cq103, kq103, q103a, q103b, q103c⟩ := isOf hZ e102 Es
 obtain ⟨_, _, ⟨T103, L103, k103, n103⟩, -, X103, ⟨Lc103, hQ103, l103, y103, z103⟩, st103⟩ := X102.virtualBack hx (y := mN2) (z := mN2) hown (mvT hZ (tw hw 70 rfl)) (mvT hZ (tw hw 71 rfl)) (notFace_of_selects (args := #[]) (mvT hZ (tw hw 73 rfl))) (mvT hZ (tw hw 73 rfl)) (mvT hZ (tw hw 72 rfl)) (by decide) (backOf (W := 3) (rmLenL l Z a0 hw [] a1 bs t1 k1 cs0 h0 n0 O0 S_CS c_CS Es Sv Sc Vs hn) hZ (tw hw 74 rfl) (tw hw 1 rfl) (by decide) (by decide)) q103a q103c (g := (mkF m 14 #[vR a1, vI 59, vI 0] [(.ref a1), (.int 0), (.int 59), (.ref t1)])) rfl (by rw [hml]; rfl) (Steps.refl _) (argsL := []) (rest := [(.int 0), (.int 59), (.ref t1)]) (lenOf pd_14 rfl) rfl (wL _) (hb hby d14_14) (fun _ _ => ⟨rfl, e102, (by decide : 0 + 0 ≤ _), (by decide : 0 + 0 ≤ _)⟩)
 dsimp only [Pt.U, Pt.locs, Pt.cells, Pt.slots] at X103 l103 y103 z103 st103 hQ103
 rw [l103] at X103
 subst y103 z103
 obtain ⟨rfl, N103q, H103⟩ := hQ103
 have N103 := Fr.app N101 N103q
 obtain ⟨_, _, ⟨T104, L104, k104, n104⟩, -, X104, ⟨Lc104, hQ104, l104, y104, z104⟩, st104⟩ := Jvm.LawKit.callS X103 hx (y := mN12) hown (mvT hZ (tw hw 80 rfl)) (mvT hZ (tw hw 81 rfl)) (mvT hZ (tw hw 24 rfl)) (mvT hZ (tw hw 82 rfl)) (by decide) (backOf (W := 0) (rmLix l Z a0 hw [] t1 bs k1 m1 h0 n0 O0 Vs hn hm hpre hend h0n) hZ (tw hw 82 rfl) (tw hw 24 rfl) (by decide) (by decide)) (g := (mkF m 17 #[vR a1, vI 59, vI 0] [(.int (Int32.ofNat bs.length)), (.int 0), (.int 59), (.ref t1)])) rfl (by rw [hml]; rfl) (argsL := [(.ref t1), (.int 59), (.int 0), (.int (Int32.ofNat bs.length))]) (rest := []) (lenOf pd_16 rfl) rfl (wL _) (hb hby d14_17) (fun _ _ => ⟨rfl, H103, (by decide : 0 + 0 ≤ _), (by decide : 0 + 0 ≤ _)⟩)
 dsimp only [Pt.U, Pt.locs, Pt.cells, Pt.slots] at X104 l104 y104 z104 st104 hQ104
 rw [l104] at X104
 subst y104 z104
 obtain ⟨rfl, N104q, H104⟩ := hQ104
 have N104 := Fr.app N103 N104q
 obtain ⟨fs, hr, hrun, hended, hW, hsame⟩ := X104.leave (v := some (.int (if m1 < bs.length then Int32.ofNat m1 else (-1 : Int32)))) (nvr Bd.returns)
 refine ⟨_, _, pre0 _ ?_, hrun, hended, _, _, rfl, ?_, ⟨_, rfl⟩, hW, hsame.mono (by decide) (by decide)⟩
 ·skip
  show SS p e below s₁ m 0 #[vR a1, vI 59, vI 0] [] _
  refine XS.aloadN X0.here hx rfl (hb hby d14_0) rfl rfl ?_
  show SS p e below s₁ m 1 #[vR a1, vI 59, vI 0] [(.ref a1)] _
  refine st101.trans ?_
  refine XS.ifNo X101.here hx rfl (hb hby d14_4) rfl ((if0 _ _).trans (feq (by decide : ¬ ((1 : Int32) = (0 : Int32)))).1) ?_
  refine XS.aloadN X101.here hx rfl (hb hby d14_7) rfl rfl ?_
  show SS p e below T101 m 8 #[vR a1, vI 59, vI 0] [(.ref a1)] _
  refine st102 _ ?_
  refine XS.iloadN X102.here hx rfl (hb hby d14_11) rfl ?_
  refine XS.iloadN X102.here hx rfl (hb hby d14_12) rfl ?_
  refine XS.aloadN X102.here hx rfl (hb hby d14_13) rfl rfl ?_
  show SS p e below T102 m 14 #[vR a1, vI 59, vI 0] [(.ref a1), (.int 0), (.int 59), (.ref t1)] _
  refine st103.trans ?_
  show SS p e below T103 m 17 #[vR a1, vI 59, vI 0] [(.int (Int32.ofNat bs.length)), (.int 0), (.int 59), (.ref t1)] _
  refine st104 _ ?_
  refine XS.goto X104.here hx rfl (pc0 := 20) (pc' := 36) rfl (hb hby d14_20) (by decide) (by decide) ?_
  show SS p e below T104 m 36 #[vR a1, vI 59, vI 0] [(.int (if m1 < bs.length then Int32.ofNat m1 else (-1 : Int32)))] _
  exact retI X104 hx Bd.returns (hb hby d14_36) hr
 ·show Q_rmIx2 Z a1 bs cs0 t1 k1 m1 h0 n0 _ T104.heap _
  rw [H104]
  exact ⟨rfl, N104, rfl⟩
theorem d13_0 : DK cD14 0 (.aload_n 0) 1 := by decide +kernel
theorem d13_1 : DK cD14 1 (.iload_n 1) 1 := by decide +kernel
theorem d13_2 : DK cD14 2 (.iconst 0) 1 := by decide +kernel
theorem d13_3 : DK cD14 3 (.invokevirtual 633) 3 := by decide +kernel
theorem d13_6 : DK cD14 6 (.ireturn) 1 := by decide +kernel
theorem ef_rmIx1 (m : MethodId) (y0 : Addr) : entryFrame m #[(.ref y0), (.int 59)] 2 = (mkF m 0 #[vR y0, vI 59] []) := by first | (simp [entryFrame, mkF, argsToLocals, Value.category]; done) | rfl
def Q_rmIx1 (Z : State) (a1 : Addr) (bs : List Int32) (cs0 : Int32) (t1 : Addr) (k1 : ClassId) (m1 : Nat) (h0 : Heap) (n0 : Nat) (v : Option Value) (h : Heap) (L : List Loc) : Prop := v = some (.int (if m1 < bs.length then Int32.ofNat m1 else (-1 : Int32))) ∧ Fr n0 L ∧ h = h0
theorem rmIx1 (l : Launch) (Z : State) (a0 : Array Value) (hw : HW a0 Z) (ws : List Jvm.Cond) (a1 : Addr) (bs : List Int32) (cs0 : Int32) (t1 : Addr) (k1 : ClassId) (m1 : Nat) (h0 : Heap) (n0 : Nat) (O0 : Old Z n0 h0) (S_CS : SCS Z cs0) (c_CS : ¬ (cs0 = (0 : Int32))) (Es : Exa Z h0 a1 "java/lang/String") (Sv : Fld Z h0 a1 "java/lang/String" "value" "[B" (.ref t1)) (Sc : Fld Z h0 a1 "java/lang/String" "coder" "B" (.int 0)) (Vs : Arv Z h0 t1 k1 .byte (Int32.ofNat bs.length) (bs.map Value.int) (.int 0)) (hn : bs.length ≤ 40) (hm : m1 ≤ bs.length) (hpre : ∀ j, j < m1 → ¬ ((bs.getD j 0) = (59 : Int32))) (hend : m1 < bs.length → (bs.getD m1 0) = (59 : Int32)) (h0n : 0 < bs.length) :
  MF l mN14 jdk_42_method_79_code 2 (some .int) ws (Rm 3 0 0 70) Z #[(.ref a1), (.int 59)] h0 (Q_rmIx1 Z a1 bs cs0 t1 k1 m1 h0 n0) := by
 refine MetFree.of_bodySF (plainFor_of_name pn_1) hisR ?_
 intro p e s m args below meth c s₁ Bd hml0 hP hK
 obtain ⟨rfl, hZ, hh⟩ := hP
 have hx := Bd.exec
 have hby := Bd.bytes
 have hml : c.maxLocals = 2 := hml0
 have hown : s.vm.findClass "java/lang/String" = some m.cls := findClass_of_methodNamed Bd.named
 have X0 : Stand p l e (Rm 3 0 0 70) s m #[(.ref a1), (.int 59)] below meth c s₁ [] 0 0 := Stand.of_body Bd
 have e0 : s₁.heap = h0 := by rw [← hh, Bd.state]; rfl
 have N0 := Fr.nil n0
 have hn0 : n0 ≤ h0.size := O0.1 ▸ O0.2.1
 have pre0 : ∀ t, SS p e below s₁ m 0 #[vR a1, vI 59] [] t → SE p e below s₁ m #[(.ref a1), (.int 59)] 2 t := fun t k => castTop (ef_rmIx1 m a1) k
 obtain ⟨cq101, kq101, q101a, q101b, q101c⟩ := isOf hZ e0 Es
 obtain ⟨_, _, ⟨T101, L101, k101, n101⟩, -, X101, ⟨Lc101, hQ101, l101, y101, z101⟩, st101⟩ := X0.virtualBack hx (y := mN13) (z := mN13) hown (mvT hZ (tw hw 65 rfl)) (mvT hZ (tw hw 66 rfl)) (notFace_of_selects (args := #[]) (mvT hZ (tw hw 68 rfl))) (mvT hZ (tw hw 68 rfl)) (mvT hZ (tw hw 67 rfl)) (by decide) (backOf (W := 0) (rmIx2 l Z a0 hw [] a1 bs cs0 t1 k1 m1 h0 n0 O0 S_CS c_CS Es Sv Sc Vs hn hm hpre hend h0n) hZ (tw hw 69 rfl) (tw hw 1 rfl) (by decide) (by decide)) q101a q101c (g := (mkF m 3 #[vR a1, vI 59] [(.int 0), (.int 59), (.ref a1)])) rfl (by rw [hml]; rfl) (Steps.refl _) (argsL := [(.int 59), (.int 0)]) (rest := []) (lenOf pd_13 rfl) rfl (wL _) (hb hby d13_3) (fun _ _ => ⟨rfl, e0, (by decide : 0 + 0 ≤ _), (by decide : 0 + 0 ≤ _)⟩)
 dsimp only [Pt.U, Pt.locs, Pt.cells, Pt.slots] at X101 l101 y101 z101 st101 hQ101
 rw [l101] at X101
 subst y101 z101
 obtain ⟨rfl, N101q, H101⟩ := hQ101
 have N101 := Fr.app N0 N101q
 obtain ⟨fs, hr, hrun, hended, hW, hsame⟩ := X101.leave (v := some (.int (if m1 < bs.length then Int32.ofNat m1 else (-1 : Int32)))) (nvr Bd.returns)
 refine ⟨_, _, pre0 _ ?_, hrun, hended, _, _, rfl, ?_, ⟨_, rfl⟩, hW, hsame.mono (by decide) (by decide)⟩
 ·skip
  show SS p e below s₁ m 0 #[vR a1, vI 59] [] _
  refine XS.aloadN X0.here hx rfl (hb hby d13_0) rfl rfl ?_
  refine XS.iloadN X0.here hx rfl (hb hby d13_1) rfl ?_
  refine XS.iconst X0.here hx rfl (hb hby d13_2) ?_
  show SS p e below s₁ m 3 #[vR a1, vI 59] [(.int 0), (.int 59), (.ref a1)] _
  refine st101.trans ?_
  show SS p e below T101 m 6 #[vR a1, vI 59] [(.int (if m1 < bs.length then Int32.ofNat m1 else (-1 : Int32)))] _
  exact retI X101 hx Bd.returns (hb hby d13_6) hr
 ·show Q_rmIx1 Z a1 bs cs0 t1 k1 m1 h0 n0 _ T101.heap _
  rw [H101]
  exact ⟨rfl, N101, rfl⟩
theorem d42_0 : DK cD15 0 (.iload_n 0) 1 := by decide +kernel
theorem d42_1 : DK cD15 1 (.ifCond .lt 13) 3 := by decide +kernel
theorem d42_4 : DK cD15 4 (.iload_n 0) 1 := by decide +kernel
theorem d42_5 : DK cD15 5 (.iload_n 1) 1 := by decide +kernel
theorem d42_6 : DK cD15 6 (.if_icmp .gt 8) 3 := by decide +kernel
theorem d42_9 : DK cD15 9 (.iload_n 1) 1 := by decide +kernel
theorem d42_10 : DK cD15 10 (.iload_n 2) 1 := by decide +kernel
theorem d42_11 : DK cD15 11 (.if_icmp .le 11) 3 := by decide +kernel
theorem d42_22 : DK cD15 22 (.iload_n 0) 1 := by decide +kernel
theorem d42_23 : DK cD15 23 (.ireturn) 1 := by decide +kernel
theorem ef_rmCftN (m : MethodId) (y0 : Int32) (y1 : Int32) (y2 : Int32) : entryFrame m #[(.int y0), (.int y1), (.int y2), .null] 4 = (mkF m 0 #[vI y0, vI y1, vI y2, .val .null] []) := by first | (simp [entryFrame, mkF, argsToLocals, Value.category]; done) | rfl
def Q_rmCftN (Z : State) (p1 : Int32) (p2 : Int32) (p3 : Int32) (h0 : Heap) (n0 : Nat) (v : Option Value) (h : Heap) (L : List Loc) : Prop := v = some (.int p1) ∧ Fr n0 L ∧ h = h0
theorem rmCftN (l : Launch) (Z : State) (a0 : Array Value) (hw : HW a0 Z) (ws : List Jvm.Cond) (p1 : Int32) (p2 : Int32) (p3 : Int32) (h0 : Heap) (n0 : Nat) (O0 : Old Z n0 h0) (c1 : ¬ (p1 < (0 : Int32))) (c2 : ¬ (p2 < p1)) (c3 : ¬ (p3 < p2)) :
  MF l mN15 jdk_41_method_12_code 4 (some .int) ws (Rm 0 0 0 0) Z #[(.int p1), (.int p2), (.int p3), .null] h0 (Q_rmCftN Z p1 p2 p3 h0 n0) := by
 refine MetFree.of_bodySF (plainFor_of_name pn_5) hisR ?_
 intro p e s m args below meth c s₁ Bd hml0 hP hK
 obtain ⟨rfl, hZ, hh⟩ := hP
 have hx := Bd.exec
 have hby := Bd.bytes
 have hml : c.maxLocals = 4 := hml0
 have hown : s.vm.findClass "jdk/internal/util/Preconditions" = some m.cls := findClass_of_methodNamed Bd.named
 have X0 : Stand p l e (Rm 0 0 0 0) s m #[(.int p1), (.int p2), (.int p3), .null] below meth c s₁ [] 0 0 := Stand.of_body Bd
 have e0 : s₁.heap = h0 := by rw [← hh, Bd.state]; rfl
 have N0 := Fr.nil n0
 have hn0 : n0 ≤ h0.size := O0.1 ▸ O0.2.1
 have pre0 : ∀ t, SS p e below s₁ m 0 #[vI p1, vI p2, vI p3, .val .null] [] t → SE p e below s₁ m #[(.int p1), (.int p2), (.int p3), .null] 4 t := fun t k => castTop (ef_rmCftN m p1 p2 p3) k
 obtain ⟨fs, hr, hrun, hended, hW, hsame⟩ := X0.leave (v := some (.int p1)) (nvr Bd.returns)
 refine ⟨_, _, pre0 _ ?_, hrun, hended, _, _, rfl, ?_, ⟨_, rfl⟩, hW, hsame.mono (by decide) (by decide)⟩
 ·skip
  show SS p e below s₁ m 0 #[vI p1, vI p2, vI p3, .val .null] [] _
  refine XS.iloadN X0.here hx rfl (hb hby d42_0) rfl ?_
  refine XS.ifNo X0.here hx rfl (hb hby d42_1) rfl ((if0 _ _).trans (flt (c1 : ¬ (p1 < (0 : Int32)))).1) ?_
  refine XS.iloadN X0.here hx rfl (hb hby d42_4) rfl ?_
  refine XS.iloadN X0.here hx rfl (hb hby d42_5) rfl ?_
  refine XS.icmpNo X0.here hx rfl (hb hby d42_6) rfl (flt (c2 : ¬ (p2 < p1))).2.2.1 ?_
  refine XS.iloadN X0.here hx rfl (hb hby d42_9) rfl ?_
  refine XS.iloadN X0.here hx rfl (hb hby d42_10) rfl ?_
  refine XS.icmpYes X0.here hx rfl (pc0 := 11) (pc' := 22) rfl (hb hby d42_11) rfl (flt (c3 : ¬ (p3 < p2))).2.2.2 (by decide) (by decide) ?_
  refine XS.iloadN X0.here hx rfl (hb hby d42_22) rfl ?_
  show SS p e below s₁ m 23 #[vI p1, vI p2, vI p3, .val .null] [(.int p1)] _
  exact retI X0 hx Bd.returns (hb hby d42_23) hr
 ·show Q_rmCftN Z p1 p2 p3 h0 n0 _ s₁.heap _
  rw [e0]
  exact ⟨rfl, N0, rfl⟩
theorem ef_rmCftF (m : MethodId) (y0 : Int32) (y1 : Int32) (y2 : Int32) (y3 : Addr) : entryFrame m #[(.int y0), (.int y1), (.int y2), (.ref y3)] 4 = (mkF m 0 #[vI y0, vI y1, vI y2, vR y3] []) := by first | (simp [entryFrame, mkF, argsToLocals, Value.category]; done) | rfl
def Q_rmCftF (Z : State) (p1 : Int32) (p2 : Int32) (p3 : Int32) (a4 : Addr) (h0 : Heap) (n0 : Nat) (v : Option Value) (h : Heap) (L : List Loc) : Prop := v = some (.int p1) ∧ Fr n0 L ∧ h = h0
theorem rmCftF (l : Launch) (Z : State) (a0 : Array Value) (hw : HW a0 Z) (ws : List Jvm.Cond) (p1 : Int32) (p2 : Int32) (p3 : Int32) (a4 : Addr) (h0 : Heap) (n0 : Nat) (O0 : Old Z n0 h0) (c1 : ¬ (p1 < (0 : Int32))) (c2 : ¬ (p2 < p1)) (c3 : ¬ (p3 < p2)) :
  MF l mN15 jdk_41_method_12_code 4 (some .int) ws (Rm 0 0 0 0) Z #[(.int p1), (.int p2), (.int p3), (.ref a4)] h0 (Q_rmCftF Z p1 p2 p3 a4 h0 n0) := by
 refine MetFree.of_bodySF (plainFor_of_name pn_5) hisR ?_
 intro p e s m args below meth c s₁ Bd hml0 hP hK
 obtain ⟨rfl, hZ, hh⟩ := hP
 have hx := Bd.exec
 have hby := Bd.bytes
 have hml : c.maxLocals = 4 := hml0
 have hown : s.vm.findClass "jdk/internal/util/Preconditions" = some m.cls := findClass_of_methodNamed Bd.named
 have X0 : Stand p l e (Rm 0 0 0 0) s m #[(.int p1), (.int p2), (.int p3), (.ref a4)] below meth c s₁ [] 0 0 := Stand.of_body Bd
 have e0 : s₁.heap = h0 := by rw [← hh, Bd.state]; rfl
 have N0 := Fr.nil n0
 have hn0 : n0 ≤ h0.size := O0.1 ▸ O0.2.1
 have pre0 : ∀ t, SS p e below s₁ m 0 #[vI p1, vI p2, vI p3, vR a4] [] t → SE p e below s₁ m #[(.int p1), (.int p2), (.int p3), (.ref a4)] 4 t := fun t k => castTop (ef_rmCftF m p1 p2 p3 a4) k
 obtain ⟨fs, hr, hrun, hended, hW, hsame⟩ := X0.leave (v := some (.int p1)) (nvr Bd.returns)
 refine ⟨_, _, pre0 _ ?_, hrun, hended, _, _, rfl, ?_, ⟨_, rfl⟩, hW, hsame.mono (by decide) (by decide)⟩
 ·skip
  show SS p e below s₁ m 0 #[vI p1, vI p2, vI p3, vR a4] [] _
  refine XS.iloadN X0.here hx rfl (hb hby d42_0) rfl ?_
  refine XS.ifNo X0.here hx rfl (hb hby d42_1) rfl ((if0 _ _).trans (flt (c1 : ¬ (p1 < (0 : Int32)))).1) ?_
  refine XS.iloadN X0.here hx rfl (hb hby d42_4) rfl ?_
  refine XS.iloadN X0.here hx rfl (hb hby d42_5) rfl ?_
  refine XS.icmpNo X0.here hx rfl (hb hby d42_6) rfl (flt (c2 : ¬ (p2 < p1))).2.2.1 ?_
  refine XS.iloadN X0.here hx rfl (hb hby d42_9) rfl ?_
  refine XS.iloadN X0.here hx rfl (hb hby d42_10) rfl ?_
  refine XS.icmpYes X0.here hx rfl (pc0 := 11) (pc' := 22) rfl (hb hby d42_11) rfl (flt (c3 : ¬ (p3 < p2))).2.2.2 (by decide) (by decide) ?_
  refine XS.iloadN X0.here hx rfl (hb hby d42_22) rfl ?_
  show SS p e below s₁ m 23 #[vI p1, vI p2, vI p3, vR a4] [(.int p1)] _
  exact retI X0 hx Bd.returns (hb hby d42_23) hr
 ·show Q_rmCftF Z p1 p2 p3 a4 h0 n0 _ s₁.heap _
  rw [e0]
  exact ⟨rfl, N0, rfl⟩
theorem d41_0 : DK cD16 0 (.iload_n 0) 1 := by decide +kernel
theorem d41_1 : DK cD16 1 (.iload_n 1) 1 := by decide +kernel
theorem d41_2 : DK cD16 2 (.iload_n 2) 1 := by decide +kernel
theorem d41_3 : DK cD16 3 (.getstatic 1053) 3 := by decide +kernel
theorem d41_6 : DK cD16 6 (.invokestatic 1062) 3 := by decide +kernel
theorem d41_9 : DK cD16 9 (.pop) 1 := by decide +kernel
theorem d41_10 : DK cD16 10 (.return_) 1 := by decide +kernel
theorem pd_32 : parseMethodDescriptor "(IIILjava/util/function/BiFunction;)I" = some ⟨[.int, .int, .int, (.object "java/util/function/BiFunction")], some .int⟩ := by decide +kernel
theorem ef_rmCbeN (m : MethodId) (y0 : Int32) (y1 : Int32) (y2 : Int32) : entryFrame m #[(.int y0), (.int y1), (.int y2)] 3 = (mkF m 0 #[vI y0, vI y1, vI y2] []) := by first | (simp [entryFrame, mkF, argsToLocals, Value.category]; done) | rfl
def Q_rmCbeN (Z : State) (p1 : Int32) (p2 : Int32) (p3 : Int32) (h0 : Heap) (n0 : Nat) (v : Option Value) (h : Heap) (L : List Loc) : Prop := v = none ∧ Fr n0 L ∧ h = h0
theorem rmCbeN (l : Launch) (Z : State) (a0 : Array Value) (hw : HW a0 Z) (ws : List Jvm.Cond) (p1 : Int32) (p2 : Int32) (p3 : Int32) (h0 : Heap) (n0 : Nat) (O0 : Old Z n0 h0) (S_FM : Sta Z Z.heap "jdk/internal/util/Preconditions" "SIOOBE_FORMATTER" "Ljava/util/function/BiFunction;" .null) (c1 : ¬ (p1 < (0 : Int32))) (c2 : ¬ (p2 < p1)) (c3 : ¬ (p3 < p2)) :
  MF l mN16 jdk_42_method_158_code 3 none ws (Rm 1 0 0 20) Z #[(.int p1), (.int p2), (.int p3)] h0 (Q_rmCbeN Z p1 p2 p3 h0 n0) := by
 refine MetFree.of_bodySF (plainFor_of_name pn_1) hisR ?_
 intro p e s m args below meth c s₁ Bd hml0 hP hK
 obtain ⟨rfl, hZ, hh⟩ := hP
 have hx := Bd.exec
 have hby := Bd.bytes
 have hml : c.maxLocals = 3 := hml0
 have hown : s.vm.findClass "java/lang/String" = some m.cls := findClass_of_methodNamed Bd.named
 have X0 : Stand p l e (Rm 1 0 0 20) s m #[(.int p1), (.int p2), (.int p3)] below meth c s₁ [] 0 0 := Stand.of_body Bd
 have e0 : s₁.heap = h0 := by rw [← hh, Bd.state]; rfl
 have N0 := Fr.nil n0
 have hn0 : n0 ≤ h0.size := O0.1 ▸ O0.2.1
 have pre0 : ∀ t, SS p e below s₁ m 0 #[vI p1, vI p2, vI p3] [] t → SE p e below s₁ m #[(.int p1), (.int p2), (.int p3)] 3 t := fun t k => castTop (ef_rmCbeN m p1 p2 p3) k
 obtain ⟨T101, X101, e101, st101⟩ := getS2 X0 hx hZ hown (host := "") (Or.inl (tw hw 29 rfl)) Via.refl e0 (Sta.ext O0.2 S_FM) (g := (mkF m 3 #[vI p1, vI p2, vI p3] [(.int p3), (.int p2), (.int p1)])) rfl (hb hby d41_3)
 obtain ⟨_, _, ⟨T102, L102, k102, n102⟩, -, X102, ⟨Lc102, hQ102, l102, y102, z102⟩, st102⟩ := Jvm.LawKit.callS X101 hx (y := mN15) hown (mvT hZ (tw hw 180 rfl)) (mvT hZ (tw hw 181 rfl)) (mvT hZ (tw hw 30 rfl)) (mvT hZ (tw hw 182 rfl)) (by decide) (backOf (W := 0) (rmCftN l Z a0 hw [] p1 p2 p3  h0 n0 O0 c1 c2 c3) hZ (tw hw 182 rfl) (tw hw 30 rfl) (by decide) (by decide)) (g := (mkF m 6 #[vI p1, vI p2, vI p3] [.null, (.int p3), (.int p2), (.int p1)])) rfl (by rw [hml]; rfl) (argsL := [(.int p1), (.int p2), (.int p3), .null]) (rest := []) (lenOf pd_32 rfl) rfl (wL _) (hb hby d41_6) (fun _ _ => ⟨rfl, e101, (by decide : 0 + 0 ≤ _), (by decide : 0 + 0 ≤ _)⟩)
 dsimp only [Pt.U, Pt.locs, Pt.cells, Pt.slots] at X102 l102 y102 z102 st102 hQ102
 rw [l102] at X102
 subst y102 z102
 obtain ⟨rfl, N102q, H102⟩ := hQ102
 have N102 := Fr.app N0 N102q
 obtain ⟨fs, hr, hrun, hended, hW, hsame⟩ := X102.leave (v := none) (fun _ => rfl)
 refine ⟨_, _, pre0 _ ?_, hrun, hended, _, _, rfl, ?_, ⟨_, rfl⟩, hW, hsame.mono (by decide) (by decide)⟩
 ·skip
  show SS p e below s₁ m 0 #[vI p1, vI p2, vI p3] [] _
  refine XS.iloadN X0.here hx rfl (hb hby d41_0) rfl ?_
  refine XS.iloadN X0.here hx rfl (hb hby d41_1) rfl ?_
  refine XS.iloadN X0.here hx rfl (hb hby d41_2) rfl ?_
  show SS p e below s₁ m 3 #[vI p1, vI p2, vI p3] [(.int p3), (.int p2), (.int p1)] _
  refine st101 _ ?_
  show SS p e below T101 m 6 #[vI p1, vI p2, vI p3] [.null, (.int p3), (.int p2), (.int p1)] _
  refine st102 _ ?_
  refine XS.pop X102.here hx rfl (hb hby d41_9) rfl rfl ?_
  show SS p e below T102 m 10 #[vI p1, vI p2, vI p3] [] _
  exact X102.returnOut hx Bd.returns (hb hby d41_10) hr
 ·show Q_rmCbeN Z p1 p2 p3 h0 n0 _ T102.heap _
  rw [H102]
  exact ⟨rfl, N102, rfl⟩
theorem ef_rmCbeF (m : MethodId) (y0 : Int32) (y1 : Int32) (y2 : Int32) : entryFrame m #[(.int y0), (.int y1), (.int y2)] 3 = (mkF m 0 #[vI y0, vI y1, vI y2] []) := by first | (simp [entryFrame, mkF, argsToLocals, Value.category]; done) | rfl
def Q_rmCbeF (Z : State) (p1 : Int32) (p2 : Int32) (p3 : Int32) (fm : Addr) (h0 : Heap) (n0 : Nat) (v : Option Value) (h : Heap) (L : List Loc) : Prop := v = none ∧ Fr n0 L ∧ h = h0
theorem rmCbeF (l : Launch) (Z : State) (a0 : Array Value) (hw : HW a0 Z) (ws : List Jvm.Cond) (p1 : Int32) (p2 : Int32) (p3 : Int32) (fm : Addr) (h0 : Heap) (n0 : Nat) (O0 : Old Z n0 h0) (S_FM : Sta Z Z.heap "jdk/internal/util/Preconditions" "SIOOBE_FORMATTER" "Ljava/util/function/BiFunction;" (.ref fm)) (c1 : ¬ (p1 < (0 : Int32))) (c2 : ¬ (p2 < p1)) (c3 : ¬ (p3 < p2)) :
  MF l mN16 jdk_42_method_158_code 3 none ws (Rm 1 0 0 20) Z #[(.int p1), (.int p2), (.int p3)] h0 (Q_rmCbeF Z p1 p2 p3 fm h0 n0) := by
 refine MetFree.of_bodySF (plainFor_of_name pn_1) hisR ?_
 intro p e s m args below meth c s₁ Bd hml0 hP hK
 obtain ⟨rfl, hZ, hh⟩ := hP
 have hx := Bd.exec
 have hby := Bd.bytes
 have hml : c.maxLocals = 3 := hml0
 have hown : s.vm.findClass "java/lang/String" = some m.cls := findClass_of_methodNamed Bd.named
 have X0 : Stand p l e (Rm 1 0 0 20) s m #[(.int p1), (.int p2), (.int p3)] below meth c s₁ [] 0 0 := Stand.of_body Bd
 have e0 : s₁.heap = h0 := by rw [← hh, Bd.state]; rfl
 have N0 := Fr.nil n0
 have hn0 : n0 ≤ h0.size := O0.1 ▸ O0.2.1
 have pre0 : ∀ t, SS p e below s₁ m 0 #[vI p1, vI p2, vI p3] [] t → SE p e below s₁ m #[(.int p1), (.int p2), (.int p3)] 3 t := fun t k => castTop (ef_rmCbeF m p1 p2 p3) k
 obtain ⟨T101, X101, e101, st101⟩ := getS2 X0 hx hZ hown (host := "") (Or.inl (tw hw 29 rfl)) Via.refl e0 (Sta.ext O0.2 S_FM) (g := (mkF m 3 #[vI p1, vI p2, vI p3] [(.int p3), (.int p2), (.int p1)])) rfl (hb hby d41_3)
 obtain ⟨_, _, ⟨T102, L102, k102, n102⟩, -, X102, ⟨Lc102, hQ102, l102, y102, z102⟩, st102⟩ := Jvm.LawKit.callS X101 hx (y := mN15) hown (mvT hZ (tw hw 180 rfl)) (mvT hZ (tw hw 181 rfl)) (mvT hZ (tw hw 30 rfl)) (mvT hZ (tw hw 182 rfl)) (by decide) (backOf (W := 0) (rmCftF l Z a0 hw [] p1 p2 p3 fm  h0 n0 O0 c1 c2 c3) hZ (tw hw 182 rfl) (tw hw 30 rfl) (by decide) (by decide)) (g := (mkF m 6 #[vI p1, vI p2, vI p3] [(.ref fm), (.int p3), (.int p2), (.int p1)])) rfl (by rw [hml]; rfl) (argsL := [(.int p1), (.int p2), (.int p3), (.ref fm)]) (rest := []) (lenOf pd_32 rfl) rfl (wL _) (hb hby d41_6) (fun _ _ => ⟨rfl, e101, (by decide : 0 + 0 ≤ _), (by decide : 0 + 0 ≤ _)⟩)
 dsimp only [Pt.U, Pt.locs, Pt.cells, Pt.slots] at X102 l102 y102 z102 st102 hQ102
 rw [l102] at X102
 subst y102 z102
 obtain ⟨rfl, N102q, H102⟩ := hQ102
 have N102 := Fr.app N0 N102q
 obtain ⟨fs, hr, hrun, hended, hW, hsame⟩ := X102.leave (v := none) (fun _ => rfl)
 refine ⟨_, _, pre0 _ ?_, hrun, hended, _, _, rfl, ?_, ⟨_, rfl⟩, hW, hsame.mono (by decide) (by decide)⟩
 ·skip
  show SS p e below s₁ m 0 #[vI p1, vI p2, vI p3] [] _
  refine XS.iloadN X0.here hx rfl (hb hby d41_0) rfl ?_
  refine XS.iloadN X0.here hx rfl (hb hby d41_1) rfl ?_
  refine XS.iloadN X0.here hx rfl (hb hby d41_2) rfl ?_
  show SS p e below s₁ m 3 #[vI p1, vI p2, vI p3] [(.int p3), (.int p2), (.int p1)] _
  refine st101 _ ?_
  show SS p e below T101 m 6 #[vI p1, vI p2, vI p3] [(.ref fm), (.int p3), (.int p2), (.int p1)] _
  refine st102 _ ?_
  refine XS.pop X102.here hx rfl (hb hby d41_9) rfl rfl ?_
  show SS p e below T102 m 10 #[vI p1, vI p2, vI p3] [] _
  exact X102.returnOut hx Bd.returns (hb hby d41_10) hr
 ·show Q_rmCbeF Z p1 p2 p3 fm h0 n0 _ T102.heap _
  rw [H102]
  exact ⟨rfl, N102, rfl⟩
def Q_rmCbe (Z : State) (p1 p2 p3 : Int32) (fm : Value) (h0 : Heap) (n0 : Nat) (v : Option Value) (h : Heap) (L : List Loc) : Prop := v = none ∧ Fr n0 L ∧ h = h0
theorem rmCbe (l : Launch) (Z : State) (a0 : Array Value) (hw : HW a0 Z) (ws : List Jvm.Cond) (p1 p2 p3 : Int32) (fm : Value) (h0 : Heap) (n0 : Nat) (O0 : Old Z n0 h0) (S_FM : SFM Z fm) (r_FM : fm.isRef = true) (c1 : ¬ (p1 < (0 : Int32))) (c2 : ¬ (p2 < p1)) (c3 : ¬ (p3 < p2)) :
  MF l mN16 jdk_42_method_158_code 3 none ws (Rm 1 0 0 20) Z #[(.int p1), (.int p2), (.int p3)] h0 (Q_rmCbe Z p1 p2 p3 fm h0 n0) := by
 rcases ref_cases r_FM with rfl | ⟨a, rfl⟩
 ·exact rmCbeN l Z a0 hw ws p1 p2 p3 h0 n0 O0 S_FM c1 c2 c3
 ·exact rmCbeF l Z a0 hw ws p1 p2 p3 a h0 n0 O0 S_FM c1 c2 c3
theorem d38_0 : DK cD17 0 (.iload_n 1) 1 := by decide +kernel
theorem d38_1 : DK cD17 1 (.iload_n 0) 1 := by decide +kernel
theorem d38_2 : DK cD17 2 (.if_icmp .ge 35) 3 := by decide +kernel
theorem d38_37 : DK cD17 37 (.return_) 1 := by decide +kernel
theorem pn_36 : plainName "java/util/Arrays" = true := by first | (simp [plainName, overriddenIn]; done) | decide +kernel
theorem ef_rmCkl (m : MethodId) (y0 : Int32) (y1 : Int32) : entryFrame m #[(.int y0), (.int y1)] 2 = (mkF m 0 #[vI y0, vI y1] []) := by first | (simp [entryFrame, mkF, argsToLocals, Value.category]; done) | rfl
def Q_rmCkl (Z : State) (p1 : Int32) (p2 : Int32) (h0 : Heap) (n0 : Nat) (v : Option Value) (h : Heap) (L : List Loc) : Prop := v = none ∧ Fr n0 L ∧ h = h0
theorem rmCkl (l : Launch) (Z : State) (a0 : Array Value) (hw : HW a0 Z) (ws : List Jvm.Cond) (p1 : Int32) (p2 : Int32) (h0 : Heap) (n0 : Nat) (O0 : Old Z n0 h0) (hc : ¬ (p2 < p1)) :
  MF l mN17 jdk_65_method_131_code 2 none ws (Rm 0 0 0 0) Z #[(.int p1), (.int p2)] h0 (Q_rmCkl Z p1 p2 h0 n0) := by
 refine MetFree.of_bodySF (plainFor_of_name pn_36) hisR ?_
 intro p e s m args below meth c s₁ Bd hml0 hP hK
 obtain ⟨rfl, hZ, hh⟩ := hP
 have hx := Bd.exec
 have hby := Bd.bytes
 have hml : c.maxLocals = 2 := hml0
 have hown : s.vm.findClass "java/util/Arrays" = some m.cls := findClass_of_methodNamed Bd.named
 have X0 : Stand p l e (Rm 0 0 0 0) s m #[(.int p1), (.int p2)] below meth c s₁ [] 0 0 := Stand.of_body Bd
 have e0 : s₁.heap = h0 := by rw [← hh, Bd.state]; rfl
 have N0 := Fr.nil n0
 have hn0 : n0 ≤ h0.size := O0.1 ▸ O0.2.1
 have pre0 : ∀ t, SS p e below s₁ m 0 #[vI p1, vI p2] [] t → SE p e below s₁ m #[(.int p1), (.int p2)] 2 t := fun t k => castTop (ef_rmCkl m p1 p2) k
 obtain ⟨fs, hr, hrun, hended, hW, hsame⟩ := X0.leave (v := none) (fun _ => rfl)
 refine ⟨_, _, pre0 _ ?_, hrun, hended, _, _, rfl, ?_, ⟨_, rfl⟩, hW, hsame.mono (by decide) (by decide)⟩
 ·skip
  show SS p e below s₁ m 0 #[vI p1, vI p2] [] _
  refine XS.iloadN X0.here hx rfl (hb hby d38_0) rfl ?_
  refine XS.iloadN X0.here hx rfl (hb hby d38_1) rfl ?_
  refine XS.icmpYes X0.here hx rfl (pc0 := 2) (pc' := 37) rfl (hb hby d38_2) rfl (flt (hc : ¬ (p2 < p1))).2.1 (by decide) (by decide) ?_
  show SS p e below s₁ m 37 #[vI p1, vI p2] [] _
  exact X0.returnOut hx Bd.returns (hb hby d38_37) hr
 ·show Q_rmCkl Z p1 p2 h0 n0 _ s₁.heap _
  rw [e0]
  exact ⟨rfl, N0, rfl⟩
theorem d37_0 : DK cD18 0 (.iload_n 1) 1 := by decide +kernel
theorem d37_1 : DK cD18 1 (.iload_n 2) 1 := by decide +kernel
theorem d37_2 : DK cD18 2 (.invokestatic 343) 3 := by decide +kernel
theorem d37_5 : DK cD18 5 (.iload_n 2) 1 := by decide +kernel
theorem d37_6 : DK cD18 6 (.iload_n 1) 1 := by decide +kernel
theorem d37_7 : DK cD18 7 (.isub) 1 := by decide +kernel
theorem d37_8 : DK cD18 8 (.istore_n 3) 1 := by decide +kernel
theorem d37_9 : DK cD18 9 (.iload_n 3) 1 := by decide +kernel
theorem d37_10 : DK cD18 10 (.newarray .byte) 2 := by decide +kernel
theorem d37_12 : DK cD18 12 (.astore 4) 2 := by decide +kernel
theorem d37_14 : DK cD18 14 (.aload_n 0) 1 := by decide +kernel
theorem d37_15 : DK cD18 15 (.iload_n 1) 1 := by decide +kernel
theorem d37_16 : DK cD18 16 (.aload 4) 2 := by decide +kernel
theorem d37_18 : DK cD18 18 (.iconst 0) 1 := by decide +kernel
theorem d37_19 : DK cD18 19 (.aload_n 0) 1 := by decide +kernel
theorem d37_20 : DK cD18 20 (.arraylength) 1 := by decide +kernel
theorem d37_21 : DK cD18 21 (.iload_n 1) 1 := by decide +kernel
theorem d37_22 : DK cD18 22 (.isub) 1 := by decide +kernel
theorem d37_23 : DK cD18 23 (.iload_n 3) 1 := by decide +kernel
theorem d37_24 : DK cD18 24 (.invokestatic 304) 3 := by decide +kernel
theorem d37_27 : DK cD18 27 (.invokestatic 150) 3 := by decide +kernel
theorem d37_30 : DK cD18 30 (.aload 4) 2 := by decide +kernel
theorem d37_32 : DK cD18 32 (.areturn) 1 := by decide +kernel
theorem ef_rmCrb (m : MethodId) (y0 : Addr) (y1 : Int32) (y2 : Int32) : entryFrame m #[(.ref y0), (.int y1), (.int y2)] 5 = (mkF m 0 #[vR y0, vI y1, vI y2, .unset, .unset] []) := by first | (simp [entryFrame, mkF, argsToLocals, Value.category]; done) | rfl
def Q_rmCrb (Z : State) (a1 : Addr) (f n : Nat) (k1 : ClassId) (bs : List Int32) (h0 : Heap) (n0 : Nat) (v : Option Value) (h : Heap) (L : List Loc) : Prop := ∃ (t : Addr) (kb : ClassId), v = some (.ref t) ∧ Fr n0 L ∧ Keep h0 h [] ∧ h0.size ≤ t ∧ Arv Z h t kb .byte (Int32.ofNat n) (((bs.drop f).take n).map Value.int) (.int 0)
theorem rmCrb (l : Launch) (Z : State) (a0 : Array Value) (hw : HW a0 Z) (ws : List Jvm.Cond) (a1 : Addr) (f n : Nat) (k1 : ClassId) (bs : List Int32) (h0 : Heap) (n0 : Nat) (O0 : Old Z n0 h0) (V1 : Arv Z h0 a1 k1 .byte (Int32.ofNat bs.length) (bs.map Value.int) (.int 0)) (hl : f + n ≤ bs.length) (hn : bs.length ≤ 40) :
  MF l mN18 jdk_65_method_133_code 5 (some (.array .byte)) ws (Rm 1 1 40 40) Z #[(.ref a1), (.int (Int32.ofNat f)), (.int (Int32.ofNat (f + n)))] h0 (Q_rmCrb Z a1 f n k1 bs h0 n0) := by
 refine MetFree.of_bodySF (plainFor_of_name pn_36) hisR ?_
 intro p e s m args below meth c s₁ Bd hml0 hP hK
 obtain ⟨rfl, hZ, hh⟩ := hP
 have hx := Bd.exec
 have hby := Bd.bytes
 have hml : c.maxLocals = 5 := hml0
 have hown : s.vm.findClass "java/util/Arrays" = some m.cls := findClass_of_methodNamed Bd.named
 have X0 : Stand p l e (Rm 1 1 40 40) s m #[(.ref a1), (.int (Int32.ofNat f)), (.int (Int32.ofNat (f + n)))] below meth c s₁ [] 0 0 := Stand.of_body Bd
 have e0 : s₁.heap = h0 := by rw [← hh, Bd.state]; rfl
 have N0 := Fr.nil n0
 have hn0 : n0 ≤ h0.size := O0.1 ▸ O0.2.1
 have pre0 : ∀ t, SS p e below s₁ m 0 #[vR a1, vI (Int32.ofNat f), vI (Int32.ofNat (f + n)), .unset, .unset] [] t → SE p e below s₁ m #[(.ref a1), (.int (Int32.ofNat f)), (.int (Int32.ofNat (f + n)))] 5 t := fun t k => castTop (ef_rmCrb m a1 ((Int32.ofNat f)) ((Int32.ofNat (f + n)))) k
 have lt_a1 : @LT.lt Nat _ a1 h0.size := V1.lt
 obtain ⟨_, _, ⟨T101, L101, k101, n101⟩, -, X101, ⟨Lc101, hQ101, l101, y101, z101⟩, st101⟩ := Jvm.LawKit.callS X0 hx (y := mN17) hown (mvT hZ (tw hw 161 rfl)) (mvT hZ (tw hw 162 rfl)) (mvT hZ (tw hw 156 rfl)) (mvT hZ (tw hw 163 rfl)) (by decide) (backOf (W := 0) (rmCkl l Z a0 hw [] (Int32.ofNat f) (Int32.ofNat (f + n))  h0 n0 O0 (fun q => by have := (own_lt (by omega) (by omega)).mp q; omega)) hZ (tw hw 163 rfl) (tw hw 156 rfl) (by decide) (by decide)) (g := (mkF m 2 #[vR a1, vI (Int32.ofNat f), vI (Int32.ofNat (f + n)), .unset, .unset] [(.int (Int32.ofNat (f + n))), (.int (Int32.ofNat f))])) rfl (by rw [hml]; rfl) (argsL := [(.int (Int32.ofNat f)), (.int (Int32.ofNat (f + n)))]) (rest := []) (lenOf pd_3 rfl) rfl (wL _) (hb hby d37_2) (fun _ _ => ⟨rfl, e0, (by decide : 0 + 0 ≤ _), (by decide : 0 + 0 ≤ _)⟩)
 dsimp only [Pt.U, Pt.locs, Pt.cells, Pt.slots] at X101 l101 y101 z101 st101 hQ101
 rw [l101] at X101
 subst y101 z101
 obtain ⟨rfl, N101q, H101⟩ := hQ101
 have N101 := Fr.app N0 N101q
 have hr102 : ((Int32.ofNat (f + n)) - (Int32.ofNat f)) = (Int32.ofNat n) := by rw [own_subN (by omega), Nat.add_sub_cancel_left]
 obtain ⟨T103, h103, k103, X103, e103, E103, A103, st103⟩ := newP X101 hx hZ (tw hw 3 rfl) H101 (g := (mkF m 10 #[vR a1, vI (Int32.ofNat f), vI (Int32.ofNat (f + n)), vI (Int32.ofNat n), .unset] [(.int (Int32.ofNat n))])) rfl (hb hby d37_10) rfl (own_nn (by omega)) (cap := 40) (by rw [own_nat (by omega)]; omega) (by decide) (by decide) (by decide)
 obtain ⟨b103, g103⟩ : ∃ z, z = h0.size := ⟨_, rfl⟩
 rw [← g103] at A103 st103
 have V103 : Arv Z h103 b103 k103 .byte (Int32.ofNat n) (List.replicate n (.int 0)) (.int 0) := (Arv.new A103 (own_nn (by omega))).pad (pad_rep [] (.int 0) n)
 have lt103 : @LT.lt Nat _ b103 h103.size := V103.lt
 have K103 : Keep h0 h103 [] := (Keep.refl _ _).ext E103
 have sz1_K103 := K103.1
 have C104 := V1.keep K103 nin0
 obtain ⟨cl105, Ar105, q105, S105, Nn105, H105, G105⟩ := id C104
 have hr106 : ((Int32.ofNat bs.length) - (Int32.ofNat f)) = (Int32.ofNat (bs.length - f)) := own_subN (by omega)
 have O108 : Old Z n0 h103 := O0.keep K103 all0
 obtain ⟨_, _, ⟨T107, L107, k107, n107⟩, -, X107, ⟨Lc107, hQ107, l107, y107, z107⟩, st107⟩ := Jvm.LawKit.callS X103 hx (y := mN4) hown (mvT hZ (tw hw 164 rfl)) (mvT hZ (tw hw 91 rfl)) (mvT hZ (tw hw 88 rfl)) (mvT hZ (tw hw 92 rfl)) (by decide) (backOf (W := 4) (rmMmin l Z a0 hw [] (Int32.ofNat (bs.length - f)) (Int32.ofNat n)  h103 n0 O108 ) hZ (tw hw 92 rfl) (tw hw 88 rfl) (by decide) (by decide)) (g := (mkF m 24 #[vR a1, vI (Int32.ofNat f), vI (Int32.ofNat (f + n)), vI (Int32.ofNat n), vR b103] [(.int (Int32.ofNat n)), (.int (Int32.ofNat (bs.length - f))), (.int 0), (.ref b103), (.int (Int32.ofNat f)), (.ref a1)])) rfl (by rw [hml]; rfl) (argsL := [(.int (Int32.ofNat (bs.length - f))), (.int (Int32.ofNat n))]) (rest := [(.int 0), (.ref b103), (.int (Int32.ofNat f)), (.ref a1)]) (lenOf pd_13 rfl) rfl (wL _) (hb hby d37_24) (fun _ _ => ⟨rfl, e103, (by decide : 1 + 0 ≤ _), (by decide : 40 + 0 ≤ _)⟩)
 dsimp only [Pt.U, Pt.locs, Pt.cells, Pt.slots] at X107 l107 y107 z107 st107 hQ107
 rw [l107] at X107
 subst y107 z107
 obtain ⟨rfl, N107q, H107⟩ := hQ107
 have N107 := Fr.app N101 N107q
 have hr109 : (jmin (Int32.ofNat (bs.length - f)) (Int32.ofNat n)) = (Int32.ofNat n) := own_jmin2 (by omega) (by omega)
 obtain ⟨T110, h110, L110, X110, e110, N110, K110, V110w, st110⟩ := cpA X107 hx hZ hown (tw hw 165 rfl) (tw hw 168 rfl) (tw hw 166 rfl) (tw hw 167 rfl) H107 (us := (((bs.drop f).take n).map Value.int)) C104 V103 (Or.inl ⟨rfl, rfl⟩) (own_nn (by omega)) (by decide) (own_nn (by omega)) (by rw [own_nat (by omega), own_nat (by omega), own_nat (by omega)]; omega) (by rw [own_z0]; exact Nat.le_of_eq (Nat.zero_add _)) (own_cpyB bs _ (own_nat (by omega)) (own_nat (by omega)) hl) (by rw [own_z0, own_nat (by omega), List.length_replicate]; omega) N107 (by omega : @LE.le Nat _ n0 b103) (g := (mkF m 27 #[vR a1, vI (Int32.ofNat f), vI (Int32.ofNat (f + n)), vI (Int32.ofNat n), vR b103] [(.int (Int32.ofNat n)), (.int 0), (.ref b103), (.int (Int32.ofNat f)), (.ref a1)])) rfl (by rw [hml]; rfl) rfl (hb hby d37_27) (by decide) (W := 0) (wL _) (by decide)
 have V110 : Arv Z h110 b103 k103 .byte (Int32.ofNat n) (((bs.drop f).take n).map Value.int) (.int 0) := V110w.pad (own_padr _ _ own_z0)
 have sz2_K110 := K110.1
 have KC111 : Keep h0 h103 [] := (Keep.refl h0 []).trans K103 (all0)
 have KC112 : Keep h0 h110 [] := KC111.trans K110 (allS (Or.inr (by omega)) (all0))
 obtain ⟨fs, hr, hrun, hended, hW, hsame⟩ := X110.leave (v := some (.ref b103)) (nvr Bd.returns)
 refine ⟨_, _, pre0 _ ?_, hrun, hended, _, _, rfl, ?_, ⟨_, rfl⟩, hW, hsame.mono (by decide) (by decide)⟩
 ·skip
  show SS p e below s₁ m 0 #[vR a1, vI (Int32.ofNat f), vI (Int32.ofNat (f + n)), .unset, .unset] [] _
  refine XS.iloadN X0.here hx rfl (hb hby d37_0) rfl ?_
  refine XS.iloadN X0.here hx rfl (hb hby d37_1) rfl ?_
  show SS p e below s₁ m 2 #[vR a1, vI (Int32.ofNat f), vI (Int32.ofNat (f + n)), .unset, .unset] [(.int (Int32.ofNat (f + n))), (.int (Int32.ofNat f))] _
  refine st101 _ ?_
  refine XS.iloadN X101.here hx rfl (hb hby d37_5) rfl ?_
  refine XS.iloadN X101.here hx rfl (hb hby d37_6) rfl ?_
  refine XS.isub X101.here hx rfl (hb hby d37_7) rfl ?_
  show SS p e below T101 m 8 #[vR a1, vI (Int32.ofNat f), vI (Int32.ofNat (f + n)), .unset, .unset] [(.int ((Int32.ofNat (f + n)) - (Int32.ofNat f)))] _
  rw [hr102]
  refine XS.istoreN X101.here hx rfl (hb hby d37_8) rfl (l' := #[vR a1, vI (Int32.ofNat f), vI (Int32.ofNat (f + n)), vI (Int32.ofNat n), .unset]) rfl ?_
  refine XS.iloadN X101.here hx rfl (hb hby d37_9) rfl ?_
  show SS p e below T101 m 10 #[vR a1, vI (Int32.ofNat f), vI (Int32.ofNat (f + n)), vI (Int32.ofNat n), .unset] [(.int (Int32.ofNat n))] _
  refine st103 _ ?_
  refine XS.astore X103.here hx rfl (hb hby d37_12) rfl rfl (l' := #[vR a1, vI (Int32.ofNat f), vI (Int32.ofNat (f + n)), vI (Int32.ofNat n), vR b103]) rfl ?_
  refine XS.aloadN X103.here hx rfl (hb hby d37_14) rfl rfl ?_
  refine XS.iloadN X103.here hx rfl (hb hby d37_15) rfl ?_
  refine XS.aload X103.here hx rfl (hb hby d37_16) rfl rfl ?_
  refine XS.iconst X103.here hx rfl (hb hby d37_18) ?_
  refine XS.aloadN X103.here hx rfl (hb hby d37_19) rfl rfl ?_
  show SS p e below T103 m 20 #[vR a1, vI (Int32.ofNat f), vI (Int32.ofNat (f + n)), vI (Int32.ofNat n), vR b103] [(.ref a1), (.int 0), (.ref b103), (.int (Int32.ofNat f)), (.ref a1)] _
  refine X103.arraylength hx (by rw [e103]; exact Ar105.1) (State.isArrayOf_alike hZ.alike Ar105.2.1) (g := (mkF m 20 #[vR a1, vI (Int32.ofNat f), vI (Int32.ofNat (f + n)), vI (Int32.ofNat n), vR b103] [(.ref a1), (.int 0), (.ref b103), (.int (Int32.ofNat f)), (.ref a1)])) rfl rfl (hb hby d37_20) _ ?_
  rw [len_of S105 Nn105]
  refine XS.iloadN X103.here hx rfl (hb hby d37_21) rfl ?_
  refine XS.isub X103.here hx rfl (hb hby d37_22) rfl ?_
  show SS p e below T103 m 23 #[vR a1, vI (Int32.ofNat f), vI (Int32.ofNat (f + n)), vI (Int32.ofNat n), vR b103] [(.int ((Int32.ofNat bs.length) - (Int32.ofNat f))), (.int 0), (.ref b103), (.int (Int32.ofNat f)), (.ref a1)] _
  rw [hr106]
  refine XS.iloadN X103.here hx rfl (hb hby d37_23) rfl ?_
  show SS p e below T103 m 24 #[vR a1, vI (Int32.ofNat f), vI (Int32.ofNat (f + n)), vI (Int32.ofNat n), vR b103] [(.int (Int32.ofNat n)), (.int (Int32.ofNat (bs.length - f))), (.int 0), (.ref b103), (.int (Int32.ofNat f)), (.ref a1)] _
  refine st107 _ ?_
  show SS p e below T107 m 27 #[vR a1, vI (Int32.ofNat f), vI (Int32.ofNat (f + n)), vI (Int32.ofNat n), vR b103] [(.int (jmin (Int32.ofNat (bs.length - f)) (Int32.ofNat n))), (.int 0), (.ref b103), (.int (Int32.ofNat f)), (.ref a1)] _
  rw [hr109]
  show SS p e below T107 m 27 #[vR a1, vI (Int32.ofNat f), vI (Int32.ofNat (f + n)), vI (Int32.ofNat n), vR b103] [(.int (Int32.ofNat n)), (.int 0), (.ref b103), (.int (Int32.ofNat f)), (.ref a1)] _
  refine st110 _ ?_
  refine XS.aload X110.here hx rfl (hb hby d37_30) rfl rfl ?_
  show SS p e below T110 m 32 #[vR a1, vI (Int32.ofNat f), vI (Int32.ofNat (f + n)), vI (Int32.ofNat n), vR b103] [(.ref b103)] _
  exact X110.areturnOut hx rfl Bd.returns rfl (hb hby d37_32) hr
 ·show Q_rmCrb Z a1 f n k1 bs h0 n0 _ T110.heap _
  rw [e110]
  exact ⟨_, _, rfl, N110, KC112, (by omega), V110⟩
theorem d36_0 : DK cD19 0 (.iload_n 1) 1 := by decide +kernel
theorem d36_1 : DK cD19 1 (.ifCond .ne 9) 3 := by decide +kernel
theorem d36_4 : DK cD19 4 (.iload_n 2) 1 := by decide +kernel
theorem d36_5 : DK cD19 5 (.aload_n 0) 1 := by decide +kernel
theorem d36_6 : DK cD19 6 (.arraylength) 1 := by decide +kernel
theorem d36_7 : DK cD19 7 (.if_icmp .eq 10) 3 := by decide +kernel
theorem d36_10 : DK cD19 10 (.aload_n 0) 1 := by decide +kernel
theorem d36_11 : DK cD19 11 (.iload_n 1) 1 := by decide +kernel
theorem d36_12 : DK cD19 12 (.iload_n 2) 1 := by decide +kernel
theorem d36_13 : DK cD19 13 (.invokestatic 339) 3 := by decide +kernel
theorem d36_16 : DK cD19 16 (.areturn) 1 := by decide +kernel
theorem pd_27 : parseMethodDescriptor "([BII)[B" = some ⟨[(.array .byte), .int, .int], some (.array .byte)⟩ := by decide +kernel
theorem ef_rmCr (m : MethodId) (y0 : Addr) (y1 : Int32) (y2 : Int32) : entryFrame m #[(.ref y0), (.int y1), (.int y2)] 3 = (mkF m 0 #[vR y0, vI y1, vI y2] []) := by first | (simp [entryFrame, mkF, argsToLocals, Value.category]; done) | rfl
def Q_rmCr (Z : State) (a1 : Addr) (f n : Nat) (k1 : ClassId) (bs : List Int32) (h0 : Heap) (n0 : Nat) (v : Option Value) (h : Heap) (L : List Loc) : Prop := ∃ (t : Addr) (kb : ClassId), v = some (.ref t) ∧ Fr n0 L ∧ Keep h0 h [] ∧ h0.size ≤ t ∧ Arv Z h t kb .byte (Int32.ofNat n) (((bs.drop f).take n).map Value.int) (.int 0)
theorem rmCr (l : Launch) (Z : State) (a0 : Array Value) (hw : HW a0 Z) (ws : List Jvm.Cond) (a1 : Addr) (f n : Nat) (k1 : ClassId) (bs : List Int32) (h0 : Heap) (n0 : Nat) (O0 : Old Z n0 h0) (V1 : Arv Z h0 a1 k1 .byte (Int32.ofNat bs.length) (bs.map Value.int) (.int 0)) (hl : f + n ≤ bs.length) (hn : bs.length ≤ 40) (hne : 0 < f ∨ n < bs.length) :
  MF l mN19 jdk_65_method_132_code 3 (some (.array .byte)) ws (Rm 2 1 40 60) Z #[(.ref a1), (.int (Int32.ofNat f)), (.int (Int32.ofNat (f + n)))] h0 (Q_rmCr Z a1 f n k1 bs h0 n0) := by
 refine MetFree.of_bodySF (plainFor_of_name pn_36) hisR ?_
 intro p e s m args below meth c s₁ Bd hml0 hP hK
 obtain ⟨rfl, hZ, hh⟩ := hP
 have hx := Bd.exec
 have hby := Bd.bytes
 have hml : c.maxLocals = 3 := hml0
 have hown : s.vm.findClass "java/util/Arrays" = some m.cls := findClass_of_methodNamed Bd.named
 have X0 : Stand p l e (Rm 2 1 40 60) s m #[(.ref a1), (.int (Int32.ofNat f)), (.int (Int32.ofNat (f + n)))] below meth c s₁ [] 0 0 := Stand.of_body Bd
 have e0 : s₁.heap = h0 := by rw [← hh, Bd.state]; rfl
 have N0 := Fr.nil n0
 have hn0 : n0 ≤ h0.size := O0.1 ▸ O0.2.1
 have pre0 : ∀ t, SS p e below s₁ m 0 #[vR a1, vI (Int32.ofNat f), vI (Int32.ofNat (f + n))] [] t → SE p e below s₁ m #[(.ref a1), (.int (Int32.ofNat f)), (.int (Int32.ofNat (f + n)))] 3 t := fun t k => castTop (ef_rmCr m a1 ((Int32.ofNat f)) ((Int32.ofNat (f + n)))) k
 have lt_a1 : @LT.lt Nat _ a1 h0.size := V1.lt
 have pre102 : ∀ t, SS p e below s₁ m 1 #[vR a1, vI (Int32.ofNat f), vI (Int32.ofNat (f + n))] [(.int (Int32.ofNat f))] t → SE p e below s₁ m #[(.ref a1), (.int (Int32.ofNat f)), (.int (Int32.ofNat (f + n)))] 3 t := by
  intro t kt
  refine pre0 _ ?_
  show SS p e below s₁ m 0 #[vR a1, vI (Int32.ofNat f), vI (Int32.ofNat (f + n))] [] _
  refine XS.iloadN X0.here hx rfl (hb hby d36_0) rfl ?_
  exact kt
 by_cases hc101 : (Int32.ofNat f) = (0 : Int32)
 ·skip
  obtain ⟨cl103, Ar103, q103, S103, Nn103, H103, G103⟩ := id V1
  obtain ⟨_, _, ⟨T104, L104, k104, n104⟩, -, X104, ⟨Lc104, hQ104, l104, y104, z104⟩, st104⟩ := Jvm.LawKit.callS X0 hx (y := mN18) hown (mvT hZ (tw hw 158 rfl)) (mvT hZ (tw hw 159 rfl)) (mvT hZ (tw hw 156 rfl)) (mvT hZ (tw hw 160 rfl)) (by decide) (backOf (W := 0) (rmCrb l Z a0 hw [] a1 f n k1 bs h0 n0 O0 V1 hl hn) hZ (tw hw 160 rfl) (tw hw 156 rfl) (by decide) (by decide)) (g := (mkF m 13 #[vR a1, vI (Int32.ofNat f), vI (Int32.ofNat (f + n))] [(.int (Int32.ofNat (f + n))), (.int (Int32.ofNat f)), (.ref a1)])) rfl (by rw [hml]; rfl) (argsL := [(.ref a1), (.int (Int32.ofNat f)), (.int (Int32.ofNat (f + n)))]) (rest := []) (lenOf pd_27 rfl) rfl (wL _) (hb hby d36_13) (fun _ _ => ⟨rfl, e0, (by decide : 0 + 1 ≤ _), (by decide : 0 + 40 ≤ _)⟩)
  dsimp only [Pt.U, Pt.locs, Pt.cells, Pt.slots] at X104 l104 y104 z104 st104 hQ104
  rw [l104] at X104
  subst y104 z104
  obtain ⟨t104, kb104, rfl, N104q, K104, gt104, V104⟩ := hQ104
  have lt104 : @LT.lt Nat _ t104 T104.heap.size := V104.lt
  have sz1_K104 := K104.1
  have N104 := Fr.app N0 N104q
  have KC105 : Keep h0 T104.heap [] := (Keep.refl h0 []).trans K104 (all0)
  obtain ⟨fs, hr, hrun, hended, hW, hsame⟩ := X104.leave (v := some (.ref t104)) (nvr Bd.returns)
  refine ⟨_, _, pre102 _ ?_, hrun, hended, _, _, rfl, ?_, ⟨_, rfl⟩, hW, hsame.mono (by decide) (by decide)⟩
  ·skip
   show SS p e below s₁ m 1 #[vR a1, vI (Int32.ofNat f), vI (Int32.ofNat (f + n))] [(.int (Int32.ofNat f))] _
   refine XS.ifNo X0.here hx rfl (hb hby d36_1) rfl ((if0 _ _).trans (teq hc101).2) ?_
   refine XS.iloadN X0.here hx rfl (hb hby d36_4) rfl ?_
   refine XS.aloadN X0.here hx rfl (hb hby d36_5) rfl rfl ?_
   show SS p e below s₁ m 6 #[vR a1, vI (Int32.ofNat f), vI (Int32.ofNat (f + n))] [(.ref a1), (.int (Int32.ofNat (f + n)))] _
   refine X0.arraylength hx (by rw [e0]; exact Ar103.1) (State.isArrayOf_alike hZ.alike Ar103.2.1) (g := (mkF m 6 #[vR a1, vI (Int32.ofNat f), vI (Int32.ofNat (f + n))] [(.ref a1), (.int (Int32.ofNat (f + n)))])) rfl rfl (hb hby d36_6) _ ?_
   rw [len_of S103 Nn103]
   refine XS.icmpNo X0.here hx rfl (hb hby d36_7) rfl (feq (fun q => by have h1 := own_eq0 (by omega) hc101; have h2 := (own_eqn (by omega) (by omega)).mp q; omega : ¬ ((Int32.ofNat (f + n)) = (Int32.ofNat bs.length)))).1 ?_
   refine XS.aloadN X0.here hx rfl (hb hby d36_10) rfl rfl ?_
   refine XS.iloadN X0.here hx rfl (hb hby d36_11) rfl ?_
   refine XS.iloadN X0.here hx rfl (hb hby d36_12) rfl ?_
   show SS p e below s₁ m 13 #[vR a1, vI (Int32.ofNat f), vI (Int32.ofNat (f + n))] [(.int (Int32.ofNat (f + n))), (.int (Int32.ofNat f)), (.ref a1)] _
   refine st104 _ ?_
   show SS p e below T104 m 16 #[vR a1, vI (Int32.ofNat f), vI (Int32.ofNat (f + n))] [(.ref t104)] _
   exact X104.areturnOut hx rfl Bd.returns rfl (hb hby d36_16) hr
  ·show Q_rmCr Z a1 f n k1 bs h0 n0 _ T104.heap _
   exact ⟨_, _, rfl, N104, KC105, (by omega), V104⟩
 ·skip
  obtain ⟨_, _, ⟨T106, L106, k106, n106⟩, -, X106, ⟨Lc106, hQ106, l106, y106, z106⟩, st106⟩ := Jvm.LawKit.callS X0 hx (y := mN18) hown (mvT hZ (tw hw 158 rfl)) (mvT hZ (tw hw 159 rfl)) (mvT hZ (tw hw 156 rfl)) (mvT hZ (tw hw 160 rfl)) (by decide) (backOf (W := 0) (rmCrb l Z a0 hw [] a1 f n k1 bs h0 n0 O0 V1 hl hn) hZ (tw hw 160 rfl) (tw hw 156 rfl) (by decide) (by decide)) (g := (mkF m 13 #[vR a1, vI (Int32.ofNat f), vI (Int32.ofNat (f + n))] [(.int (Int32.ofNat (f + n))), (.int (Int32.ofNat f)), (.ref a1)])) rfl (by rw [hml]; rfl) (argsL := [(.ref a1), (.int (Int32.ofNat f)), (.int (Int32.ofNat (f + n)))]) (rest := []) (lenOf pd_27 rfl) rfl (wL _) (hb hby d36_13) (fun _ _ => ⟨rfl, e0, (by decide : 0 + 1 ≤ _), (by decide : 0 + 40 ≤ _)⟩)
  dsimp only [Pt.U, Pt.locs, Pt.cells, Pt.slots] at X106 l106 y106 z106 st106 hQ106
  rw [l106] at X106
  subst y106 z106
  obtain ⟨t106, kb106, rfl, N106q, K106, gt106, V106⟩ := hQ106
  have lt106 : @LT.lt Nat _ t106 T106.heap.size := V106.lt
  have sz1_K106 := K106.1
  have N106 := Fr.app N0 N106q
  have KC107 : Keep h0 T106.heap [] := (Keep.refl h0 []).trans K106 (all0)
  obtain ⟨fs, hr, hrun, hended, hW, hsame⟩ := X106.leave (v := some (.ref t106)) (nvr Bd.returns)
  refine ⟨_, _, pre102 _ ?_, hrun, hended, _, _, rfl, ?_, ⟨_, rfl⟩, hW, hsame.mono (by decide) (by decide)⟩
  ·skip
   show SS p e below s₁ m 1 #[vR a1, vI (Int32.ofNat f), vI (Int32.ofNat (f + n))] [(.int (Int32.ofNat f))] _
   refine XS.ifYes X0.here hx rfl (pc0 := 1) (pc' := 10) rfl (hb hby d36_1) rfl ((if0 _ _).trans (feq hc101).2) (by decide) (by decide) ?_
   refine XS.aloadN X0.here hx rfl (hb hby d36_10) rfl rfl ?_
   refine XS.iloadN X0.here hx rfl (hb hby d36_11) rfl ?_
   refine XS.iloadN X0.here hx rfl (hb hby d36_12) rfl ?_
   show SS p e below s₁ m 13 #[vR a1, vI (Int32.ofNat f), vI (Int32.ofNat (f + n))] [(.int (Int32.ofNat (f + n))), (.int (Int32.ofNat f)), (.ref a1)] _
   refine st106 _ ?_
   show SS p e below T106 m 16 #[vR a1, vI (Int32.ofNat f), vI (Int32.ofNat (f + n))] [(.ref t106)] _
   exact X106.areturnOut hx rfl Bd.returns rfl (hb hby d36_16) hr
  ·show Q_rmCr Z a1 f n k1 bs h0 n0 _ T106.heap _
   exact ⟨_, _, rfl, N106, KC107, (by omega), V106⟩
theorem d39_0 : DK cD20 0 (.aload_n 0) 1 := by decide +kernel
theorem d39_1 : DK cD20 1 (.invokespecial 1) 3 := by decide +kernel
theorem d39_4 : DK cD20 4 (.aload_n 0) 1 := by decide +kernel
theorem d39_5 : DK cD20 5 (.aload_n 1) 1 := by decide +kernel
theorem d39_6 : DK cD20 6 (.putfield 9) 3 := by decide +kernel
theorem d39_9 : DK cD20 9 (.aload_n 0) 1 := by decide +kernel
theorem d39_10 : DK cD20 10 (.iload_n 2) 1 := by decide +kernel
theorem d39_11 : DK cD20 11 (.putfield 15) 3 := by decide +kernel
theorem d39_14 : DK cD20 14 (.return_) 1 := by decide +kernel
theorem ef_rm39 (m : MethodId) (y0 : Addr) (y1 : Addr) : entryFrame m #[(.ref y0), (.ref y1), (.int 0)] 3 = (mkF m 0 #[vR y0, vR y1, vI 0] []) := by first | (simp [entryFrame, mkF, argsToLocals, Value.category]; done) | rfl
def Q_rm39 (Z : State) (a1 : Addr) (a2 : Addr) (h0 : Heap) (n0 : Nat) (v : Option Value) (h : Heap) (L : List Loc) : Prop := v = none ∧ Fr n0 L ∧ Keep h0 h [a1] ∧ Exa Z h a1 "java/lang/String" ∧ Fld Z h a1 "java/lang/String" "value" "[B" (.ref a2) ∧ Fld Z h a1 "java/lang/String" "coder" "B" (.int 0)
theorem rm39 (l : Launch) (Z : State) (a0 : Array Value) (hw : HW a0 Z) (ws : List Jvm.Cond) (a1 : Addr) (a2 : Addr) (h0 : Heap) (n0 : Nat) (O0 : Old Z n0 h0) (g1 : n0 ≤ a1) (E1 : Exa Z h0 a1 "java/lang/String") (F1 : Fld Z h0 a1 "java/lang/String" "value" "[B" .null) (F2 : Fld Z h0 a1 "java/lang/String" "coder" "B" (.int 0)) :
  MF l mN20 jdk_42_method_151_code 3 none ws (Rm 1 0 0 12) Z #[(.ref a1), (.ref a2), (.int 0)] h0 (Q_rm39 Z a1 a2 h0 n0) := by
 refine MetFree.of_bodySF (plainFor_of_name pn_1) hisR ?_
 intro p e s m args below meth c s₁ Bd hml0 hP hK
 obtain ⟨rfl, hZ, hh⟩ := hP
 have hx := Bd.exec
 have hby := Bd.bytes
 have hml : c.maxLocals = 3 := hml0
 have hown : s.vm.findClass "java/lang/String" = some m.cls := findClass_of_methodNamed Bd.named
 have hnm := (name_of_methodNamed Bd.named Bd.method).1
 have X0 : Stand p l e (Rm 1 0 0 12) s m #[(.ref a1), (.ref a2), (.int 0)] below meth c s₁ [] 0 0 := Stand.of_body Bd
 have e0 : s₁.heap = h0 := by rw [← hh, Bd.state]; rfl
 have N0 := Fr.nil n0
 have hn0 : n0 ≤ h0.size := O0.1 ▸ O0.2.1
 have pre0 : ∀ t, SS p e below s₁ m 0 #[vR a1, vR a2, vI 0] [] t → SE p e below s₁ m #[(.ref a1), (.ref a2), (.int 0)] 3 t := fun t k => castTop (ef_rm39 m a1 a2) k
 have lt_a1 : @LT.lt Nat _ a1 h0.size := E1.lt
 obtain ⟨T101, X101, e101, st101⟩ := initO X0 hx hZ hown (tw hw 43 rfl) (tw hw 44 rfl) (tw hw 45 rfl) e0 (g := (mkF m 1 #[vR a1, vR a2, vI 0] [(.ref a1)])) rfl (by rw [hml]; rfl) rfl (hb hby d39_1) (by decide) (W := 0) (wL _) (by decide)
 obtain ⟨T102, h102, X102, e102, W102, st102⟩ := putF X101 hx hZ hown (host := "") (Or.inl (tw hw 21 rfl)) Via.refl e101 F1 E1 (Or.inr ⟨(tw hw 4 rfl), rfl, hnm⟩) (tw hw 2 rfl) (ty := (.array .byte)) (by decide) rfl rfl (g := (mkF m 6 #[vR a1, vR a2, vI 0] [(.ref a2), (.ref a1)])) rfl rfl (hb hby d39_6)
 have K102 := Keep.of_wr W102
 have Fw102 := Fld.same W102 F1
 have N102 := Fr.snoc X102 N0 (by omega : @LE.le Nat _ n0 a1)
 have sz1_K102 := K102.1
 have C103 := E1.keep K102
 have C104 := Fld.other W102 F2 (Or.inr (slot_ne (Or.inr (tw hw 5 rfl)) (Or.inr (tw hw 4 rfl)) (by decide) (t := .byte) (t' := (.array .byte)) (by decide) (by decide)))
 obtain ⟨T105, h105, X105, e105, W105, st105⟩ := putFN X102 hx hZ hown (tw hw 20 rfl) Via.refl e102 C104 C103 (Or.inr ⟨(tw hw 5 rfl), rfl, hnm⟩) (tw hw 2 rfl) (ty := .byte) (v' := (.int 0)) (by decide) rfl rfl (g := (mkF m 11 #[vR a1, vR a2, vI 0] [(.int 0), (.ref a1)])) rfl rfl (hb hby d39_11)
 have K105 := Keep.of_wr W105
 have Fw105 := Fld.same W105 C104
 have N105 := Fr.snoc X105 N102 (by omega : @LE.le Nat _ n0 a1)
 have sz2_K105 := K105.1
 have KC106 : Keep h0 h102 [a1] := (Keep.refl h0 [a1]).trans K102 (allS (Or.inl (List.mem_of_getElem? (i := 0) rfl)) (all0))
 have KC107 : Keep h0 h105 [a1] := KC106.trans K105 (allS (Or.inl (List.mem_of_getElem? (i := 0) rfl)) (all0))
 have C108 := C103.keep K105
 have C109 := Fld.other W105 Fw102 (Or.inr (slot_ne (Or.inr (tw hw 4 rfl)) (Or.inr (tw hw 5 rfl)) (by decide) (t := (.array .byte)) (t' := .byte) (by decide) (by decide)))
 obtain ⟨fs, hr, hrun, hended, hW, hsame⟩ := X105.leave (v := none) (fun _ => rfl)
 refine ⟨_, _, pre0 _ ?_, hrun, hended, _, _, rfl, ?_, ⟨_, rfl⟩, hW, hsame.mono (by decide) (by decide)⟩
 ·skip
  show SS p e below s₁ m 0 #[vR a1, vR a2, vI 0] [] _
  refine XS.aloadN X0.here hx rfl (hb hby d39_0) rfl rfl ?_
  show SS p e below s₁ m 1 #[vR a1, vR a2, vI 0] [(.ref a1)] _
  refine st101 _ ?_
  refine XS.aloadN X101.here hx rfl (hb hby d39_4) rfl rfl ?_
  refine XS.aloadN X101.here hx rfl (hb hby d39_5) rfl rfl ?_
  show SS p e below T101 m 6 #[vR a1, vR a2, vI 0] [(.ref a2), (.ref a1)] _
  refine st102 _ ?_
  refine XS.aloadN X102.here hx rfl (hb hby d39_9) rfl rfl ?_
  refine XS.iloadN X102.here hx rfl (hb hby d39_10) rfl ?_
  show SS p e below T102 m 11 #[vR a1, vR a2, vI 0] [(.int 0), (.ref a1)] _
  refine st105 _ ?_
  show SS p e below T105 m 14 #[vR a1, vR a2, vI 0] [] _
  exact X105.returnOut hx Bd.returns (hb hby d39_14) hr
 ·show Q_rm39 Z a1 a2 h0 n0 _ T105.heap _
  rw [e105]
  exact ⟨rfl, N105, KC107, C108, C109, Fw105⟩
theorem d35_0 : DK cD21 0 (.iload_n 2) 1 := by decide +kernel
theorem d35_1 : DK cD21 1 (.ifCond .ne 6) 3 := by decide +kernel
theorem d35_4 : DK cD21 4 (.ldc 151) 2 := by decide +kernel
theorem d35_6 : DK cD21 6 (.areturn) 1 := by decide +kernel
theorem d35_7 : DK cD21 7 (.new 1) 3 := by decide +kernel
theorem d35_10 : DK cD21 10 (.dup) 1 := by decide +kernel
theorem d35_11 : DK cD21 11 (.aload_n 0) 1 := by decide +kernel
theorem d35_12 : DK cD21 12 (.iload_n 1) 1 := by decide +kernel
theorem d35_13 : DK cD21 13 (.iload_n 1) 1 := by decide +kernel
theorem d35_14 : DK cD21 14 (.iload_n 2) 1 := by decide +kernel
theorem d35_15 : DK cD21 15 (.iadd) 1 := by decide +kernel
theorem d35_16 : DK cD21 16 (.invokestatic 232) 3 := by decide +kernel
theorem d35_19 : DK cD21 19 (.iconst 0) 1 := by decide +kernel
theorem d35_20 : DK cD21 20 (.invokespecial 112) 3 := by decide +kernel
theorem d35_23 : DK cD21 23 (.areturn) 1 := by decide +kernel
theorem pd_29 : parseMethodDescriptor "([BB)V" = some ⟨[(.array .byte), .byte], none⟩ := by decide +kernel
theorem ef_rmNs (m : MethodId) (y0 : Addr) (y1 : Int32) (y2 : Int32) : entryFrame m #[(.ref y0), (.int y1), (.int y2)] 3 = (mkF m 0 #[vR y0, vI y1, vI y2] []) := by first | (simp [entryFrame, mkF, argsToLocals, Value.category]; done) | rfl
def Q_rmNs (Z : State) (a1 : Addr) (f n : Nat) (k1 : ClassId) (bs : List Int32) (h0 : Heap) (n0 : Nat) (v : Option Value) (h : Heap) (L : List Loc) : Prop := ∃ (y t : Addr) (kb : ClassId), v = some (.ref y) ∧ Fr n0 L ∧ Keep h0 h [] ∧ Exa Z h y "java/lang/String" ∧ Fld Z h y "java/lang/String" "value" "[B" (.ref t) ∧ Fld Z h y "java/lang/String" "coder" "B" (.int 0) ∧ Arv Z h t kb .byte (Int32.ofNat ((bs.drop f).take n).length) (((bs.drop f).take n).map Value.int) (.int 0)
theorem rmNs (l : Launch) (Z : State) (a0 : Array Value) (hw : HW a0 Z) (ws : List Jvm.Cond) (a1 : Addr) (f n : Nat) (k1 : ClassId) (bs : List Int32) (h0 : Heap) (n0 : Nat) (O0 : Old Z n0 h0) (V1 : Arv Z h0 a1 k1 .byte (Int32.ofNat bs.length) (bs.map Value.int) (.int 0)) (hl : f + n ≤ bs.length) (hn : bs.length ≤ 40) (hne : 0 < f ∨ n < bs.length) :
  MetFree l mN21 (head1 (Jvm.Cond.code mN21 jdk_43_method_47_code 3 (some (.object "java/lang/String")) :: ws) (Rm 3 4 48 90)) (fun a U => a = #[(.ref a1), (.int (Int32.ofNat f)), (.int (Int32.ofNat n))] ∧ Z.Warmed39 U.vm ∧ U.heap = h0 ∧ CHv Z EL1 U.vm h0) (fun _ _ _ _ _ => True) (fun _ U o U' => ∃ v L, o = .returned v ∧ Q_rmNs Z a1 f n k1 bs h0 n0 v U'.heap L ∧ CHr Z EL1 U.vm U.heap U'.vm U'.heap ∧ ReturnedEndW U o U' L (Rm 3 4 48 90).cells (Rm 3 4 48 90).slots) := by
 refine MetFree.of_bodySF (plainFor_of_name pn_3) hisR ?_
 intro p e s m args below meth c s₁ Bd hml0 hP hK
 obtain ⟨rfl, hZ, hh, hCH⟩ := hP
 have hx := Bd.exec
 have hby := Bd.bytes
 have hml : c.maxLocals = 3 := hml0
 have hown : s.vm.findClass "java/lang/StringLatin1" = some m.cls := findClass_of_methodNamed Bd.named
 have X0 : Stand p l e (Rm 3 4 48 90) s m #[(.ref a1), (.int (Int32.ofNat f)), (.int (Int32.ofNat n))] below meth c s₁ [] 0 0 := Stand.of_body Bd
 have e0 : s₁.heap = h0 := by rw [← hh, Bd.state]; rfl
 have N0 := Fr.nil n0
 have hn0 : n0 ≤ h0.size := O0.1 ▸ O0.2.1
 have CR0 := CHr.refl hCH
 have hS0 : s.Since s.vm h0.size := (State.WarmedH.refl s).since _
 have pre0 : ∀ t, SS p e below s₁ m 0 #[vR a1, vI (Int32.ofNat f), vI (Int32.ofNat n)] [] t → SE p e below s₁ m #[(.ref a1), (.int (Int32.ofNat f)), (.int (Int32.ofNat n))] 3 t := fun t k => castTop (ef_rmNs m a1 ((Int32.ofNat f)) ((Int32.ofNat n))) k
 have wStr : ∀ d ∈ Bundle.stringAtoms, d.before a0 Z = true := fun d hd => hw d ((by decide +kernel : ∀ d ∈ Bundle.stringAtoms, d ∈ tables_1) d hd)
 have hEW : EW Z a0 EL1 := EW.cons (tw hw 126 rfl) (by decide) (EW.cons (tw hw 0 rfl) (by decide) (EW.cons (tw hw 184 rfl) (by decide) EW.nil))
 have lt_a1 : @LT.lt Nat _ a1 h0.size := V1.lt
 have pre102 : ∀ t, SS p e below s₁ m 1 #[vR a1, vI (Int32.ofNat f), vI (Int32.ofNat n)] [(.int (Int32.ofNat n))] t → SE p e below s₁ m #[(.ref a1), (.int (Int32.ofNat f)), (.int (Int32.ofNat n))] 3 t := by
  intro t kt
  refine pre0 _ ?_
  show SS p e below s₁ m 0 #[vR a1, vI (Int32.ofNat f), vI (Int32.ofNat n)] [] _
  refine XS.iloadN X0.here hx rfl (hb hby d35_0) rfl ?_
  exact kt
 by_cases hc101 : (Int32.ofNat n) = (0 : Int32)
 ·skip
  obtain ⟨b103, T103, h103, k103, t103, kb103, X103, e103, E103, hS103, hk103, hZ103, hown103, Ea103, Fc103, Fv103, Av103, la103, lb103, CR103, Li103, nq103, st103⟩ := ldcCH (s := s) (vm0 := s.vm) X0 hx hZ hown (tw hw 184 rfl) wStr e0 hS0 (by omega) hEW (by simp [EL1]) CR0.1 (vs := (([] : List Int32).map Value.int)) (z := (Int32.ofNat ([] : List Int32).length)) ⟨by decide, by decide⟩ (by decide) (by decide) (g := (mkF m 4 #[vR a1, vI (Int32.ofNat f), vI (Int32.ofNat n)] [])) rfl (hb hby d35_4) (n := 0) (by decide) (by decide) (by decide) (by decide)
  have lta103 : @LT.lt Nat _ b103 h103.size := la103
  have ltb103 : @LT.lt Nat _ t103 h103.size := lb103
  have K103 : Keep h0 h103 [] := (Keep.refl _ _).ext E103
  have cR1_K103 := CR0.trans CR103
  have sz1_K103 := K103.1
  have hz0 : n = 0 := own_eq0 (by omega) hc101
  have KC104 : Keep h0 h103 [] := (Keep.refl h0 []).trans K103 (all0)
  obtain ⟨fs, hr, hrun, hended, eR, eW, eI, eS⟩ := Stand.leaveW (s := s) (vm₁ := T103.vm) X103 hS103 (by rw [e103]; omega) (v := some (.ref b103)) (nvr Bd.returns)
  refine ⟨_, _, pre102 _ ?_, hrun, hended, _, _, rfl, ?_, ?_, eR, eW, eI, eS.mono (by decide) (by decide)⟩
  ·skip
   show SS p e below s₁ m 1 #[vR a1, vI (Int32.ofNat f), vI (Int32.ofNat n)] [(.int (Int32.ofNat n))] _
   refine XS.ifNo X0.here hx rfl (hb hby d35_1) rfl ((if0 _ _).trans (teq hc101).2) ?_
   show SS p e below s₁ m 4 #[vR a1, vI (Int32.ofNat f), vI (Int32.ofNat n)] [] _
   refine st103 _ ?_
   show SS p e below T103 m 6 #[vR a1, vI (Int32.ofNat f), vI (Int32.ofNat n)] [(.ref b103)] _
   exact X103.areturnOut hx rfl Bd.returns rfl (hb hby d35_6) hr
  ·show Q_rmNs Z a1 f n k1 bs h0 n0 _ T103.heap _
   rw [e103]
   exact ⟨_, _, _, rfl, N0, KC104, Ea103, Fv103, Fc103, (by rw [hz0]; exact Av103)⟩
  ·show CHr Z EL1 s.vm s.heap T103.vm T103.heap
   rw [hh, e103]
   exact cR1_K103.trans (CHv.at (s := s) (vm0 := T103.vm) X103 hZ103 hEW cR1_K103.1)
 ·skip
  obtain ⟨T105, h105, X105, e105, E105, A105, D105, -, st105⟩ := newO X0 hx hZ hown (tw hw 153 rfl) (tw hw 2 rfl) (tw hw 1 rfl) e0 (g := (mkF m 7 #[vR a1, vI (Int32.ofNat f), vI (Int32.ofNat n)] [])) rfl (hb hby d35_7) (by decide) (by decide)
  obtain ⟨b105, g105⟩ : ∃ z, z = h0.size := ⟨_, rfl⟩
  rw [← g105] at A105 D105 st105
  have lt105 : @LT.lt Nat _ b105 h105.size := A105.lt
  have K105 : Keep h0 h105 [] := (Keep.refl _ _).ext E105
  have cR1_K105 := CR0.trans (CHr.keep K105 sf0 CR0.1)
  have sz1_K105 := K105.1
  have F105_value : Fld Z h105 b105 "java/lang/String" "value" "[B" .null := D105 (Or.inr (tw hw 4 rfl)) (ty := (.array .byte)) (by decide)
  have F105_coder : Fld Z h105 b105 "java/lang/String" "coder" "B" (.int 0) := D105 (Or.inr (tw hw 5 rfl)) (ty := .byte) (by decide)
  have hr106 : ((Int32.ofNat f) + (Int32.ofNat n)) = (Int32.ofNat (f + n)) := own_add _ _
  have C108 := V1.keep K105 nin0
  have O109 : Old Z n0 h105 := O0.keep K105 all0
  obtain ⟨_, _, ⟨T107, L107, k107, n107⟩, -, X107, ⟨Lc107, hQ107, l107, y107, z107⟩, st107⟩ := Jvm.LawKit.callS X105 hx (y := mN19) hown (mvT hZ (tw hw 154 rfl)) (mvT hZ (tw hw 155 rfl)) (mvT hZ (tw hw 156 rfl)) (mvT hZ (tw hw 157 rfl)) (by decide) (backOf (W := 2) (rmCr l Z a0 hw [] a1 f n k1 bs h105 n0 O109 C108 hl hn hne) hZ (tw hw 157 rfl) (tw hw 156 rfl) (by decide) (by decide)) (g := (mkF m 16 #[vR a1, vI (Int32.ofNat f), vI (Int32.ofNat n)] [(.int (Int32.ofNat (f + n))), (.int (Int32.ofNat f)), (.ref a1), (.ref b105), (.ref b105)])) rfl (by rw [hml]; rfl) (argsL := [(.ref a1), (.int (Int32.ofNat f)), (.int (Int32.ofNat (f + n)))]) (rest := [(.ref b105), (.ref b105)]) (lenOf pd_27 rfl) rfl (wL _) (hb hby d35_16) (fun _ _ => ⟨rfl, e105, (by decide : 1 + 1 ≤ _), (by decide : 4 + 40 ≤ _)⟩)
  dsimp only [Pt.U, Pt.locs, Pt.cells, Pt.slots] at X107 l107 y107 z107 st107 hQ107
  rw [l107] at X107
  subst y107 z107
  obtain ⟨t107, kb107, rfl, N107q, K107, gt107, V107⟩ := hQ107
  have lt107 : @LT.lt Nat _ t107 T107.heap.size := V107.lt
  have cR2_K107 := cR1_K105.trans (CHr.keep K107 sf0 cR1_K105.1)
  have sz2_K107 := K107.1
  have N107 := Fr.app N0 N107q
  have C111 := A105.keep K107
  have C112 := F105_value.keep K107 nin0
  have C113 := F105_coder.keep K107 nin0
  have O114 : Old Z n0 T107.heap := O109.keep K107 all0
  obtain ⟨_, _, ⟨T110, L110, k110, n110⟩, -, X110, ⟨Lc110, hQ110, l110, y110, z110⟩, st110⟩ := X107.specialBack hx (y := mN20) rfl hown (mvT hZ (tw hw 169 rfl)) (mvT hZ (tw hw 170 rfl)) (mvT hZ (tw hw 171 rfl)) (by decide) (backOf (W := 1) (rm39 l Z a0 hw [] b105 t107  T107.heap n0 O114 (by omega : @LE.le Nat _ n0 b105) C111 C112 C113) hZ (tw hw 171 rfl) (tw hw 1 rfl) (by decide) (by decide)) (g := (mkF m 20 #[vR a1, vI (Int32.ofNat f), vI (Int32.ofNat n)] [(.int 0), (.ref t107), (.ref b105), (.ref b105)])) rfl (by rw [hml]; rfl) (Steps.refl _) (a := b105) (argsL := [(.ref t107), (.int 0)]) (rest := [(.ref b105)]) (lenOf pd_29 rfl) rfl (wL _) (hb hby d35_20) (fun _ _ => ⟨rfl, rfl, (by decide : 2 + 0 ≤ _), (by decide : 44 + 0 ≤ _)⟩)
  dsimp only [Pt.U, Pt.locs, Pt.cells, Pt.slots] at X110 l110 y110 z110 st110 hQ110
  rw [l110] at X110
  subst y110 z110
  obtain ⟨rfl, N110q, K110, E110, Fv110, Fc110⟩ := hQ110
  have Sf115 : Safe Z EL1 s.vm h0 b105 := Safe.new (by omega)
  have Sf116 := Safe.keep K105 sf0 CR0.1 Sf115
  have Sf117 := Safe.keep K107 sf0 cR1_K105.1 Sf116
  have hs3_K110 : ∀ x ∈ ([b105] : List Addr), Safe Z EL1 s.vm T107.heap x := sfS Sf117 (sf0)
  have cR3_K110 := cR2_K107.trans (CHr.keep K110 hs3_K110 cR2_K107.1)
  have sz3_K110 := K110.1
  have N110 := Fr.app N107 N110q
  have C118 := V107.keep K110 (ninS (by omega : @Ne Nat t107 b105) (nin0))
  have KC119 : Keep h0 h105 [] := (Keep.refl h0 []).trans K105 (all0)
  have KC120 : Keep h0 T107.heap [] := KC119.trans K107 (all0)
  have KC121 : Keep h0 T110.heap [] := KC120.trans K110 (allS (Or.inr (by omega)) (all0))
  obtain ⟨fs, hr, hrun, hended, eR, eW, eI, eS⟩ := Stand.leaveW (s := s) (vm₁ := s.vm) X110 hS0 (by omega) (v := some (.ref b105)) (nvr Bd.returns)
  refine ⟨_, _, pre102 _ ?_, hrun, hended, _, _, rfl, ?_, ?_, eR, eW, eI, eS.mono (by decide) (by decide)⟩
  ·skip
   show SS p e below s₁ m 1 #[vR a1, vI (Int32.ofNat f), vI (Int32.ofNat n)] [(.int (Int32.ofNat n))] _
   refine XS.ifYes X0.here hx rfl (pc0 := 1) (pc' := 7) rfl (hb hby d35_1) rfl ((if0 _ _).trans (feq hc101).2) (by decide) (by decide) ?_
   show SS p e below s₁ m 7 #[vR a1, vI (Int32.ofNat f), vI (Int32.ofNat n)] [] _
   refine st105 _ ?_
   refine XS.dup X105.here hx rfl (hb hby d35_10) rfl rfl ?_
   refine XS.aloadN X105.here hx rfl (hb hby d35_11) rfl rfl ?_
   refine XS.iloadN X105.here hx rfl (hb hby d35_12) rfl ?_
   refine XS.iloadN X105.here hx rfl (hb hby d35_13) rfl ?_
   refine XS.iloadN X105.here hx rfl (hb hby d35_14) rfl ?_
   refine XS.iadd X105.here hx rfl (hb hby d35_15) rfl ?_
   show SS p e below T105 m 16 #[vR a1, vI (Int32.ofNat f), vI (Int32.ofNat n)] [(.int ((Int32.ofNat f) + (Int32.ofNat n))), (.int (Int32.ofNat f)), (.ref a1), (.ref b105), (.ref b105)] _
   rw [hr106]
   show SS p e below T105 m 16 #[vR a1, vI (Int32.ofNat f), vI (Int32.ofNat n)] [(.int (Int32.ofNat (f + n))), (.int (Int32.ofNat f)), (.ref a1), (.ref b105), (.ref b105)] _
   refine st107 _ ?_
   refine XS.iconst X107.here hx rfl (hb hby d35_19) ?_
   show SS p e below T107 m 20 #[vR a1, vI (Int32.ofNat f), vI (Int32.ofNat n)] [(.int 0), (.ref t107), (.ref b105), (.ref b105)] _
   refine st110.trans ?_
   show SS p e below T110 m 23 #[vR a1, vI (Int32.ofNat f), vI (Int32.ofNat n)] [(.ref b105)] _
   exact X110.areturnOut hx rfl Bd.returns rfl (hb hby d35_23) hr
  ·show Q_rmNs Z a1 f n k1 bs h0 n0 _ T110.heap _
   exact ⟨_, _, _, rfl, N110, KC121, E110, Fv110, Fc110, (by rw [own_dtl hl]; exact C118)⟩
  ·show CHr Z EL1 s.vm s.heap T110.vm T110.heap
   rw [hh]
   exact cR3_K110.trans (CHv.at (s := s) (vm0 := s.vm) X110 hZ hEW cR3_K110.1)
theorem d40_0 : DK cD22 0 (.aload_n 0) 1 := by decide +kernel
theorem d40_1 : DK cD22 1 (.invokevirtual 505) 3 := by decide +kernel
theorem d40_4 : DK cD22 4 (.istore_n 3) 1 := by decide +kernel
theorem d40_5 : DK cD22 5 (.iload_n 1) 1 := by decide +kernel
theorem d40_6 : DK cD22 6 (.iload_n 2) 1 := by decide +kernel
theorem d40_7 : DK cD22 7 (.iload_n 3) 1 := by decide +kernel
theorem d40_8 : DK cD22 8 (.invokestatic 521) 3 := by decide +kernel
theorem d40_11 : DK cD22 11 (.iload_n 1) 1 := by decide +kernel
theorem d40_12 : DK cD22 12 (.ifCond .ne 10) 3 := by decide +kernel
theorem d40_15 : DK cD22 15 (.iload_n 2) 1 := by decide +kernel
theorem d40_16 : DK cD22 16 (.iload_n 3) 1 := by decide +kernel
theorem d40_17 : DK cD22 17 (.if_icmp .ne 5) 3 := by decide +kernel
theorem d40_22 : DK cD22 22 (.iload_n 2) 1 := by decide +kernel
theorem d40_23 : DK cD22 23 (.iload_n 1) 1 := by decide +kernel
theorem d40_24 : DK cD22 24 (.isub) 1 := by decide +kernel
theorem d40_25 : DK cD22 25 (.istore 4) 2 := by decide +kernel
theorem d40_27 : DK cD22 27 (.aload_n 0) 1 := by decide +kernel
theorem d40_28 : DK cD22 28 (.invokevirtual 492) 3 := by decide +kernel
theorem d40_31 : DK cD22 31 (.ifCond .eq 16) 3 := by decide +kernel
theorem d40_34 : DK cD22 34 (.aload_n 0) 1 := by decide +kernel
theorem d40_35 : DK cD22 35 (.getfield 9) 3 := by decide +kernel
theorem d40_38 : DK cD22 38 (.iload_n 1) 1 := by decide +kernel
theorem d40_39 : DK cD22 39 (.iload 4) 2 := by decide +kernel
theorem d40_41 : DK cD22 41 (.invokestatic 685) 3 := by decide +kernel
theorem d40_44 : DK cD22 44 (.goto 13) 3 := by decide +kernel
theorem d40_57 : DK cD22 57 (.areturn) 1 := by decide +kernel
theorem pd_31 : parseMethodDescriptor "(III)V" = some ⟨[.int, .int, .int], none⟩ := by decide +kernel
theorem pd_26 : parseMethodDescriptor "([BII)Ljava/lang/String;" = some ⟨[(.array .byte), .int, .int], some (.object "java/lang/String")⟩ := by decide +kernel
theorem ef_rmSub (m : MethodId) (y0 : Addr) (y1 : Int32) : entryFrame m #[(.ref y0), (.int 0), (.int y1)] 5 = (mkF m 0 #[vR y0, vI 0, vI y1, .unset, .unset] []) := by first | (simp [entryFrame, mkF, argsToLocals, Value.category]; done) | rfl
def Q_rmSub (Z : State) (a1 : Addr) (bs : List Int32) (cs0 : Int32) (t1 : Addr) (k1 : ClassId) (m1 : Nat) (fm : Value) (h0 : Heap) (n0 : Nat) (v : Option Value) (h : Heap) (L : List Loc) : Prop := ∃ (y t : Addr) (kb : ClassId), v = some (.ref y) ∧ Fr n0 L ∧ Keep h0 h [] ∧ Exa Z h y "java/lang/String" ∧ Fld Z h y "java/lang/String" "value" "[B" (.ref t) ∧ Fld Z h y "java/lang/String" "coder" "B" (.int 0) ∧ Arv Z h t kb .byte (Int32.ofNat (bs.take m1).length) ((bs.take m1).map Value.int) (.int 0)
theorem rmSub (l : Launch) (Z : State) (a0 : Array Value) (hw : HW a0 Z) (ws : List Jvm.Cond) (a1 : Addr) (bs : List Int32) (cs0 : Int32) (t1 : Addr) (k1 : ClassId) (m1 : Nat) (fm : Value) (h0 : Heap) (n0 : Nat) (O0 : Old Z n0 h0) (S_CS : SCS Z cs0) (c_CS : ¬ (cs0 = (0 : Int32))) (Es : Exa Z h0 a1 "java/lang/String") (Sv : Fld Z h0 a1 "java/lang/String" "value" "[B" (.ref t1)) (Sc : Fld Z h0 a1 "java/lang/String" "coder" "B" (.int 0)) (Vs : Arv Z h0 t1 k1 .byte (Int32.ofNat bs.length) (bs.map Value.int) (.int 0)) (hn : bs.length ≤ 40) (hm : m1 < bs.length) (S_FM : SFM Z fm) (r_FM : fm.isRef = true) :
  MetFree l mN22 (head1 (Jvm.Cond.code mN22 jdk_42_method_92_code 5 (some (.object "java/lang/String")) :: ws) (Rm 4 4 48 120)) (fun a U => a = #[(.ref a1), (.int 0), (.int (Int32.ofNat m1))] ∧ Z.Warmed39 U.vm ∧ U.heap = h0 ∧ CHv Z EL1 U.vm h0) (fun _ _ _ _ _ => True) (fun _ U o U' => ∃ v L, o = .returned v ∧ Q_rmSub Z a1 bs cs0 t1 k1 m1 fm h0 n0 v U'.heap L ∧ CHr Z EL1 U.vm U.heap U'.vm U'.heap ∧ ReturnedEndW U o U' L (Rm 4 4 48 120).cells (Rm 4 4 48 120).slots) := by
 refine MetFree.of_bodySF (plainFor_of_name pn_1) hisR ?_
 intro p e s m args below meth c s₁ Bd hml0 hP hK
 obtain ⟨rfl, hZ, hh, hCH⟩ := hP
 have hx := Bd.exec
 have hby := Bd.bytes
 have hml : c.maxLocals = 5 := hml0
 have hown : s.vm.findClass "java/lang/String" = some m.cls := findClass_of_methodNamed Bd.named
 have X0 : Stand p l e (Rm 4 4 48 120) s m #[(.ref a1), (.int 0), (.int (Int32.ofNat m1))] below meth c s₁ [] 0 0 := Stand.of_body Bd
 have e0 : s₁.heap = h0 := by rw [← hh, Bd.state]; rfl
 have N0 := Fr.nil n0
 have hn0 : n0 ≤ h0.size := O0.1 ▸ O0.2.1
 have CR0 := CHr.refl hCH
 have hS0 : s.Since s.vm h0.size := (State.WarmedH.refl s).since _
 have pre0 : ∀ t, SS p e below s₁ m 0 #[vR a1, vI 0, vI (Int32.ofNat m1), .unset, .unset] [] t → SE p e below s₁ m #[(.ref a1), (.int 0), (.int (Int32.ofNat m1))] 5 t := fun t k => castTop (ef_rmSub m a1 ((Int32.ofNat m1))) k
 have wStr : ∀ d ∈ Bundle.stringAtoms, d.before a0 Z = true := fun d hd => hw d ((by decide +kernel : ∀ d ∈ Bundle.stringAtoms, d ∈ tables_1) d hd)
 have hEW : EW Z a0 EL1 := EW.cons (tw hw 126 rfl) (by decide) (EW.cons (tw hw 0 rfl) (by decide) (EW.cons (tw hw 184 rfl) (by decide) EW.nil))
 have lt_a1 : @LT.lt Nat _ a1 h0.size := Es.lt
 have lt_t1 : @LT.lt Nat _ t1 h0.size := Vs.lt
 obtain ⟨cq101, kq101, q101a, q101b, q101c⟩ := isOf hZ e0 Es
 obtain ⟨_, _, ⟨T101, L101, k101, n101⟩, -, X101, ⟨Lc101, hQ101, l101, y101, z101⟩, st101⟩ := X0.virtualBack hx (y := mN2) (z := mN2) hown (mvT hZ (tw hw 70 rfl)) (mvT hZ (tw hw 71 rfl)) (notFace_of_selects (args := #[]) (mvT hZ (tw hw 73 rfl))) (mvT hZ (tw hw 73 rfl)) (mvT hZ (tw hw 72 rfl)) (by decide) (backOf (W := 0) (rmLenL l Z a0 hw [] a1 bs t1 k1 cs0 h0 n0 O0 S_CS c_CS Es Sv Sc Vs hn) hZ (tw hw 74 rfl) (tw hw 1 rfl) (by decide) (by decide)) q101a q101c (g := (mkF m 1 #[vR a1, vI 0, vI (Int32.ofNat m1), .unset, .unset] [(.ref a1)])) rfl (by rw [hml]; rfl) (Steps.refl _) (argsL := []) (rest := []) (lenOf pd_14 rfl) rfl (wL _) (hb hby d40_1) (fun _ _ => ⟨rfl, e0, (by decide : 0 + 0 ≤ _), (by decide : 0 + 0 ≤ _)⟩)
 dsimp only [Pt.U, Pt.locs, Pt.cells, Pt.slots] at X101 l101 y101 z101 st101 hQ101
 rw [l101] at X101
 subst y101 z101
 obtain ⟨rfl, N101q, H101⟩ := hQ101
 have N101 := Fr.app N0 N101q
 obtain ⟨_, _, ⟨T102, L102, k102, n102⟩, -, X102, ⟨Lc102, hQ102, l102, y102, z102⟩, st102⟩ := Jvm.LawKit.callS X101 hx (y := mN16) hown (mvT hZ (tw hw 177 rfl)) (mvT hZ (tw hw 178 rfl)) (mvT hZ (tw hw 1 rfl)) (mvT hZ (tw hw 179 rfl)) (by decide) (backOf (W := 0) (rmCbe l Z a0 hw [] (0 : Int32) (Int32.ofNat m1) (Int32.ofNat bs.length) fm h0 n0 O0 S_FM r_FM (by decide) (own_nn (by omega)) (fun q => by have := (own_lt (by omega) (by omega)).mp q; omega)) hZ (tw hw 179 rfl) (tw hw 1 rfl) (by decide) (by decide)) (g := (mkF m 8 #[vR a1, vI 0, vI (Int32.ofNat m1), vI (Int32.ofNat bs.length), .unset] [(.int (Int32.ofNat bs.length)), (.int (Int32.ofNat m1)), (.int 0)])) rfl (by rw [hml]; rfl) (argsL := [(.int 0), (.int (Int32.ofNat m1)), (.int (Int32.ofNat bs.length))]) (rest := []) (lenOf pd_31 rfl) rfl (wL _) (hb hby d40_8) (fun _ _ => ⟨rfl, H101, (by decide : 0 + 0 ≤ _), (by decide : 0 + 0 ≤ _)⟩)
 dsimp only [Pt.U, Pt.locs, Pt.cells, Pt.slots] at X102 l102 y102 z102 st102 hQ102
 rw [l102] at X102
 subst y102 z102
 obtain ⟨rfl, N102q, H102⟩ := hQ102
 have N102 := Fr.app N101 N102q
 have hr103 : ((Int32.ofNat m1) - (0 : Int32)) = (Int32.ofNat m1) := Int32.sub_zero _
 obtain ⟨cq104, kq104, q104a, q104b, q104c⟩ := isOf hZ H102 Es
 obtain ⟨_, _, ⟨T104, L104, k104, n104⟩, -, X104, ⟨Lc104, hQ104, l104, y104, z104⟩, st104⟩ := X102.virtualBack hx (y := mN1) (z := mN1) hown (mvT hZ (tw hw 14 rfl)) (mvT hZ (tw hw 15 rfl)) (notFace_of_selects (args := #[]) (mvT hZ (tw hw 17 rfl))) (mvT hZ (tw hw 17 rfl)) (mvT hZ (tw hw 16 rfl)) (by decide) (backOf (W := 0) (rmIsLat l Z a0 hw [] a1 bs t1 k1 cs0 h0 n0 O0 S_CS c_CS Es Sv Sc Vs hn) hZ (tw hw 18 rfl) (tw hw 1 rfl) (by decide) (by decide)) q104a q104c (g := (mkF m 28 #[vR a1, vI 0, vI (Int32.ofNat m1), vI (Int32.ofNat bs.length), vI (Int32.ofNat m1)] [(.ref a1)])) rfl (by rw [hml]; rfl) (Steps.refl _) (argsL := []) (rest := []) (lenOf pd_1 rfl) rfl (wL _) (hb hby d40_28) (fun _ _ => ⟨rfl, H102, (by decide : 0 + 0 ≤ _), (by decide : 0 + 0 ≤ _)⟩)
 dsimp only [Pt.U, Pt.locs, Pt.cells, Pt.slots] at X104 l104 y104 z104 st104 hQ104
 rw [l104] at X104
 subst y104 z104
 obtain ⟨rfl, N104q, H104⟩ := hQ104
 have N104 := Fr.app N102 N104q
 obtain ⟨T105, X105, e105, st105⟩ := getF X104 hx hZ hown (host := "") (Or.inl (tw hw 21 rfl)) Via.refl H104 Sv (g := (mkF m 35 #[vR a1, vI 0, vI (Int32.ofNat m1), vI (Int32.ofNat bs.length), vI (Int32.ofNat m1)] [(.ref a1)])) rfl rfl (hb hby d40_35)
 obtain ⟨_, _, ⟨T106, L106, k106, n106⟩, -, X106q, hSq106, hgr106, ⟨Lc106, hQ106, l106, y106, z106, cr106⟩, st106⟩ := callSS X105 hx (y := mN21) hown (mvT hZ (tw hw 183 rfl)) (mvT hZ (tw hw 151 rfl)) (mvT hZ (tw hw 24 rfl)) (mvT hZ (tw hw 152 rfl)) (by decide) (backOfSH (s := s) (vm0 := s.vm) (EL := EL1) (W := 0) (rmNs l Z a0 hw [] t1 0 m1 k1 bs h0 n0 O0 Vs (by omega) hn (Or.inr hm)) hZ (tw hw 152 rfl) (tw hw 24 rfl) (by decide) (by decide) hEW CR0.1) (g := (mkF m 41 #[vR a1, vI 0, vI (Int32.ofNat m1), vI (Int32.ofNat bs.length), vI (Int32.ofNat m1)] [(.int (Int32.ofNat m1)), (.int 0), (.ref t1)])) rfl (by rw [hml]; rfl) (argsL := [(.ref t1), (.int 0), (.int (Int32.ofNat m1))]) (rest := []) (lenOf pd_26 rfl) rfl (wL _) (hb hby d40_41) (fun _ _ => ⟨rfl, e105, (by decide : 0 + 4 ≤ _), (by decide : 0 + 48 ≤ _)⟩)
 dsimp only [Pt.U, Pt.locs, Pt.cells, Pt.slots] at X106q l106 y106 z106 st106 hQ106 hSq106 hgr106 cr106
 rw [l106] at X106q
 subst y106 z106
 obtain ⟨X106, hS106, hZ106, hown106⟩ := rebS (s := s) (vm0 := s.vm) hS0 (by rw [e105]; omega) X106q hSq106 hgr106 hZ hown
 obtain ⟨y106, t106, kb106, rfl, N106q, K106, Es106, Sv106, Sc106, Vs106⟩ := hQ106
 have lty106 : @LT.lt Nat _ y106 T106.heap.size := Es106.lt
 have ltt106 : @LT.lt Nat _ t106 T106.heap.size := Vs106.lt
 have cR1_K106 := CR0.trans cr106
 have sz1_K106 := K106.1
 have N106 := Fr.app N104 N106q
 have KC107 : Keep h0 T106.heap [] := (Keep.refl h0 []).trans K106 (all0)
 obtain ⟨fs, hr, hrun, hended, eR, eW, eI, eS⟩ := Stand.leaveW (s := s) (vm₁ := T106.vm) X106 hS106 (by omega) (v := some (.ref y106)) (nvr Bd.returns)
 refine ⟨_, _, pre0 _ ?_, hrun, hended, _, _, rfl, ?_, ?_, eR, eW, eI, eS.mono (by decide) (by decide)⟩
 ·skip
  show SS p e below s₁ m 0 #[vR a1, vI 0, vI (Int32.ofNat m1), .unset, .unset] [] _
  refine XS.aloadN X0.here hx rfl (hb hby d40_0) rfl rfl ?_
  show SS p e below s₁ m 1 #[vR a1, vI 0, vI (Int32.ofNat m1), .unset, .unset] [(.ref a1)] _
  refine st101.trans ?_
  refine XS.istoreN X101.here hx rfl (hb hby d40_4) rfl (l' := #[vR a1, vI 0, vI (Int32.ofNat m1), vI (Int32.ofNat bs.length), .unset]) rfl ?_
  refine XS.iloadN X101.here hx rfl (hb hby d40_5) rfl ?_
  refine XS.iloadN X101.here hx rfl (hb hby d40_6) rfl ?_
  refine XS.iloadN X101.here hx rfl (hb hby d40_7) rfl ?_
  show SS p e below T101 m 8 #[vR a1, vI 0, vI (Int32.ofNat m1), vI (Int32.ofNat bs.length), .unset] [(.int (Int32.ofNat bs.length)), (.int (Int32.ofNat m1)), (.int 0)] _
  refine st102 _ ?_
  refine XS.iloadN X102.here hx rfl (hb hby d40_11) rfl ?_
  refine XS.ifNo X102.here hx rfl (hb hby d40_12) rfl ((if0 _ _).trans (teq (by decide : (0 : Int32) = (0 : Int32))).2) ?_
  refine XS.iloadN X102.here hx rfl (hb hby d40_15) rfl ?_
  refine XS.iloadN X102.here hx rfl (hb hby d40_16) rfl ?_
  refine XS.icmpYes X102.here hx rfl (pc0 := 17) (pc' := 22) rfl (hb hby d40_17) rfl (feq (fun q => by have := (own_eqn (by omega) (by omega)).mp q; omega : ¬ ((Int32.ofNat m1) = (Int32.ofNat bs.length)))).2 (by decide) (by decide) ?_
  refine XS.iloadN X102.here hx rfl (hb hby d40_22) rfl ?_
  refine XS.iloadN X102.here hx rfl (hb hby d40_23) rfl ?_
  refine XS.isub X102.here hx rfl (hb hby d40_24) rfl ?_
  show SS p e below T102 m 25 #[vR a1, vI 0, vI (Int32.ofNat m1), vI (Int32.ofNat bs.length), .unset] [(.int ((Int32.ofNat m1) - (0 : Int32)))] _
  rw [hr103]
  refine XS.istore X102.here hx rfl (hb hby d40_25) rfl (l' := #[vR a1, vI 0, vI (Int32.ofNat m1), vI (Int32.ofNat bs.length), vI (Int32.ofNat m1)]) rfl ?_
  refine XS.aloadN X102.here hx rfl (hb hby d40_27) rfl rfl ?_
  show SS p e below T102 m 28 #[vR a1, vI 0, vI (Int32.ofNat m1), vI (Int32.ofNat bs.length), vI (Int32.ofNat m1)] [(.ref a1)] _
  refine st104.trans ?_
  refine XS.ifNo X104.here hx rfl (hb hby d40_31) rfl ((if0 _ _).trans (feq (by decide : ¬ ((1 : Int32) = (0 : Int32)))).1) ?_
  refine XS.aloadN X104.here hx rfl (hb hby d40_34) rfl rfl ?_
  show SS p e below T104 m 35 #[vR a1, vI 0, vI (Int32.ofNat m1), vI (Int32.ofNat bs.length), vI (Int32.ofNat m1)] [(.ref a1)] _
  refine st105 _ ?_
  refine XS.iloadN X105.here hx rfl (hb hby d40_38) rfl ?_
  refine XS.iload X105.here hx rfl (hb hby d40_39) rfl ?_
  show SS p e below T105 m 41 #[vR a1, vI 0, vI (Int32.ofNat m1), vI (Int32.ofNat bs.length), vI (Int32.ofNat m1)] [(.int (Int32.ofNat m1)), (.int 0), (.ref t1)] _
  refine st106.trans ?_
  refine XS.goto X106.here hx rfl (pc0 := 44) (pc' := 57) rfl (hb hby d40_44) (by decide) (by decide) ?_
  show SS p e below T106 m 57 #[vR a1, vI 0, vI (Int32.ofNat m1), vI (Int32.ofNat bs.length), vI (Int32.ofNat m1)] [(.ref y106)] _
  exact X106.areturnOut hx rfl Bd.returns rfl (hb hby d40_57) hr
 ·show Q_rmSub Z a1 bs cs0 t1 k1 m1 fm h0 n0 _ T106.heap _
  exact ⟨_, _, _, rfl, N106, KC107, Es106, Sv106, Sc106, Vs106⟩
 ·show CHr Z EL1 s.vm s.heap T106.vm T106.heap
  rw [hh]
  exact cR1_K106.trans (CHv.at (s := s) (vm0 := T106.vm) X106 hZ106 hEW cR1_K106.1)
theorem d27_0 : DK cD23 0 (.iload_n 1) 1 := by decide +kernel
theorem d27_1 : DK cD23 1 (.i2c) 1 := by decide +kernel
theorem d27_2 : DK cD23 2 (.istore_n 2) 1 := by decide +kernel
theorem d27_3 : DK cD23 3 (.getstatic 1) 3 := by decide +kernel
theorem d27_6 : DK cD23 6 (.iload_n 2) 1 := by decide +kernel
theorem d27_7 : DK cD23 7 (.iaload) 1 := by decide +kernel
theorem d27_8 : DK cD23 8 (.istore_n 3) 1 := by decide +kernel
theorem d27_9 : DK cD23 9 (.iload_n 3) 1 := by decide +kernel
theorem d27_10 : DK cD23 10 (.ireturn) 1 := by decide +kernel
theorem pn_26 : plainName "java/lang/CharacterDataLatin1" = true := by first | (simp [plainName, overriddenIn]; done) | decide +kernel
theorem ef_rmGp (m : MethodId) (y0 : Addr) (y1 : Int32) : entryFrame m #[(.ref y0), (.int y1)] 4 = (mkF m 0 #[vR y0, vI y1, .unset, .unset] []) := by first | (simp [entryFrame, mkF, argsToLocals, Value.category]; done) | rfl
def Q_rmGp (Z : State) (p1 : Int32) (cin ta : Addr) (kA : ClassId) (h0 : Heap) (n0 : Nat) (v : Option Value) (h : Heap) (L : List Loc) : Prop := v = some (.int (tabA.getD p1.toNatClampNeg 0)) ∧ Fr n0 L ∧ h = h0
theorem rmGp (l : Launch) (Z : State) (a0 : Array Value) (hw : HW a0 Z) (ws : List Jvm.Cond) (p1 : Int32) (cin ta : Addr) (kA : ClassId) (h0 : Heap) (n0 : Nat) (O0 : Old Z n0 h0) (S_IN : Sta Z Z.heap "java/lang/CharacterDataLatin1" "instance" "Ljava/lang/CharacterDataLatin1;" (.ref cin)) (E_IN : Exa Z Z.heap cin "java/lang/CharacterDataLatin1") (S_A : Sta Z Z.heap "java/lang/CharacterDataLatin1" "A" "[I" (.ref ta)) (V_A : Arv Z Z.heap ta kA .int (256 : Int32) (tabA.map Value.int) (.int 0)) (r1 : ¬ p1 < 0 ∧ ¬ (255 : Int32) < p1) :
  MF l mN23 jdk_116_method_1_code 4 (some .int) ws (Rm 0 0 0 0) Z #[(.ref cin), (.int p1)] h0 (Q_rmGp Z p1 cin ta kA h0 n0) := by
 refine MetFree.of_bodySF (plainFor_of_name pn_26) hisR ?_
 intro p e s m args below meth c s₁ Bd hml0 hP hK
 obtain ⟨rfl, hZ, hh⟩ := hP
 have hx := Bd.exec
 have hby := Bd.bytes
 have hml : c.maxLocals = 4 := hml0
 have hown : s.vm.findClass "java/lang/CharacterDataLatin1" = some m.cls := findClass_of_methodNamed Bd.named
 have X0 : Stand p l e (Rm 0 0 0 0) s m #[(.ref cin), (.int p1)] below meth c s₁ [] 0 0 := Stand.of_body Bd
 have e0 : s₁.heap = h0 := by rw [← hh, Bd.state]; rfl
 have N0 := Fr.nil n0
 have hn0 : n0 ≤ h0.size := O0.1 ▸ O0.2.1
 have pre0 : ∀ t, SS p e below s₁ m 0 #[vR cin, vI p1, .unset, .unset] [] t → SE p e below s₁ m #[(.ref cin), (.int p1)] 4 t := fun t k => castTop (ef_rmGp m cin p1) k
 have E_in := Exa.ext O0.2 E_IN
 have V_a := V_A.ext O0.2
 have hr101 : (p1.toUInt32.toUInt16.toUInt32.toInt32) = p1 := own_nc (own_c255 r1)
 obtain ⟨T102, X102, e102, st102⟩ := getS2 X0 hx hZ hown (host := "") (Or.inl (tw hw 122 rfl)) Via.refl e0 (Sta.ext O0.2 S_A) (g := (mkF m 3 #[vR cin, vI p1, vI p1, .unset] [])) rfl (hb hby d27_3)
 obtain ⟨cl103, Ar103, q103, S103, Nn103, H103, G103⟩ := id V_a
 have hat103 : cl103.slots[(p1).toNatClampNeg]? = some (.int (tabA.getD p1.toNatClampNeg 0)) := (Has.at H103 (inb_of S103 ⟨r1.1, own_lt256 r1⟩) (own_getDk _ (by rw [own_tablen]; exact (own_tab r1).2)))
 obtain ⟨fs, hr, hrun, hended, hW, hsame⟩ := X102.leave (v := some (.int (tabA.getD p1.toNatClampNeg 0))) (nvr Bd.returns)
 refine ⟨_, _, pre0 _ ?_, hrun, hended, _, _, rfl, ?_, ⟨_, rfl⟩, hW, hsame.mono (by decide) (by decide)⟩
 ·skip
  show SS p e below s₁ m 0 #[vR cin, vI p1, .unset, .unset] [] _
  refine XS.iloadN X0.here hx rfl (hb hby d27_0) rfl ?_
  refine XS.i2c X0.here hx rfl (hb hby d27_1) rfl ?_
  show SS p e below s₁ m 2 #[vR cin, vI p1, .unset, .unset] [(.int (p1.toUInt32.toUInt16.toUInt32.toInt32))] _
  rw [hr101]
  refine XS.istoreN X0.here hx rfl (hb hby d27_2) rfl (l' := #[vR cin, vI p1, vI p1, .unset]) rfl ?_
  show SS p e below s₁ m 3 #[vR cin, vI p1, vI p1, .unset] [] _
  refine st102 _ ?_
  refine XS.iloadN X102.here hx rfl (hb hby d27_6) rfl ?_
  show SS p e below T102 m 7 #[vR cin, vI p1, vI p1, .unset] [(.int p1), (.ref ta)] _
  refine X102.iaload hx (j := p1) (v := (.int (tabA.getD p1.toNatClampNeg 0))) (by rw [e102]; exact Ar103.1) (State.isArrayOf_alike hZ.alike Ar103.2.1) Ar103.2.2 (inb_of S103 ⟨r1.1, own_lt256 r1⟩) hat103 (g := (mkF m 7 #[vR cin, vI p1, vI p1, .unset] [(.int p1), (.ref ta)])) rfl rfl (hb hby d27_7) _ ?_
  refine XS.istoreN X102.here hx rfl (hb hby d27_8) rfl (l' := #[vR cin, vI p1, vI p1, vI (tabA.getD p1.toNatClampNeg 0)]) rfl ?_
  refine XS.iloadN X102.here hx rfl (hb hby d27_9) rfl ?_
  show SS p e below T102 m 10 #[vR cin, vI p1, vI p1, vI (tabA.getD p1.toNatClampNeg 0)] [(.int (tabA.getD p1.toNatClampNeg 0))] _
  exact retI X102 hx Bd.returns (hb hby d27_10) hr
 ·show Q_rmGp Z p1 cin ta kA h0 n0 _ T102.heap _
  rw [e102]
  exact ⟨rfl, N0, rfl⟩
theorem d26_0 : DK cD24 0 (.aload_n 0) 1 := by decide +kernel
theorem d26_1 : DK cD24 1 (.iload_n 1) 1 := by decide +kernel
theorem d26_2 : DK cD24 2 (.invokevirtual 15) 3 := by decide +kernel
theorem d26_5 : DK cD24 5 (.istore_n 2) 1 := by decide +kernel
theorem d26_6 : DK cD24 6 (.iload_n 2) 1 := by decide +kernel
theorem d26_7 : DK cD24 7 (.sipush 28672) 3 := by decide +kernel
theorem d26_10 : DK cD24 10 (.iand) 1 := by decide +kernel
theorem d26_11 : DK cD24 11 (.sipush 16384) 3 := by decide +kernel
theorem d26_14 : DK cD24 14 (.if_icmp .ne 7) 3 := by decide +kernel
theorem d26_17 : DK cD24 17 (.iconst 1) 1 := by decide +kernel
theorem d26_18 : DK cD24 18 (.goto 4) 3 := by decide +kernel
theorem d26_21 : DK cD24 21 (.iconst 0) 1 := by decide +kernel
theorem d26_22 : DK cD24 22 (.ireturn) 1 := by decide +kernel
theorem pd_12 : parseMethodDescriptor "(I)I" = some ⟨[.int], some .int⟩ := by decide +kernel
theorem ef_rmIsw (m : MethodId) (y0 : Addr) (y1 : Int32) : entryFrame m #[(.ref y0), (.int y1)] 3 = (mkF m 0 #[vR y0, vI y1, .unset] []) := by first | (simp [entryFrame, mkF, argsToLocals, Value.category]; done) | rfl
def Q_rmIsw (Z : State) (p1 : Int32) (cin ta : Addr) (kA : ClassId) (h0 : Heap) (n0 : Nat) (v : Option Value) (h : Heap) (L : List Loc) : Prop := v = some (.int (wsC p1)) ∧ Fr n0 L ∧ h = h0
theorem rmIsw (l : Launch) (Z : State) (a0 : Array Value) (hw : HW a0 Z) (ws : List Jvm.Cond) (p1 : Int32) (cin ta : Addr) (kA : ClassId) (h0 : Heap) (n0 : Nat) (O0 : Old Z n0 h0) (S_IN : Sta Z Z.heap "java/lang/CharacterDataLatin1" "instance" "Ljava/lang/CharacterDataLatin1;" (.ref cin)) (E_IN : Exa Z Z.heap cin "java/lang/CharacterDataLatin1") (S_A : Sta Z Z.heap "java/lang/CharacterDataLatin1" "A" "[I" (.ref ta)) (V_A : Arv Z Z.heap ta kA .int (256 : Int32) (tabA.map Value.int) (.int 0)) (r1 : ¬ p1 < 0 ∧ ¬ (255 : Int32) < p1) :
  MF l mN24 jdk_116_method_26_code 3 (some .boolean) ws (Rm 1 0 0 20) Z #[(.ref cin), (.int p1)] h0 (Q_rmIsw Z p1 cin ta kA h0 n0) := by
 refine MetFree.of_bodySF (plainFor_of_name pn_26) hisR ?_
 intro p e s m args below meth c s₁ Bd hml0 hP hK
 obtain ⟨rfl, hZ, hh⟩ := hP
 have hx := Bd.exec
 have hby := Bd.bytes
 have hml : c.maxLocals = 3 := hml0
 have hown : s.vm.findClass "java/lang/CharacterDataLatin1" = some m.cls := findClass_of_methodNamed Bd.named
 have X0 : Stand p l e (Rm 1 0 0 20) s m #[(.ref cin), (.int p1)] below meth c s₁ [] 0 0 := Stand.of_body Bd
 have e0 : s₁.heap = h0 := by rw [← hh, Bd.state]; rfl
 have N0 := Fr.nil n0
 have hn0 : n0 ≤ h0.size := O0.1 ▸ O0.2.1
 have pre0 : ∀ t, SS p e below s₁ m 0 #[vR cin, vI p1, .unset] [] t → SE p e below s₁ m #[(.ref cin), (.int p1)] 3 t := fun t k => castTop (ef_rmIsw m cin p1) k
 have E_in := Exa.ext O0.2 E_IN
 have V_a := V_A.ext O0.2
 obtain ⟨cq101, kq101, q101a, q101b, q101c⟩ := isOf hZ e0 E_in
 obtain ⟨_, _, ⟨T101, L101, k101, n101⟩, -, X101, ⟨Lc101, hQ101, l101, y101, z101⟩, st101⟩ := X0.virtualBack hx (y := mN23) (z := mN23) hown (mvT hZ (tw hw 117 rfl)) (mvT hZ (tw hw 118 rfl)) (notFace_of_selects (args := #[]) (mvT hZ (tw hw 120 rfl))) (mvT hZ (tw hw 120 rfl)) (mvT hZ (tw hw 119 rfl)) (by decide) (backOf (W := 0) (rmGp l Z a0 hw [] p1 cin ta kA h0 n0 O0 S_IN E_IN S_A V_A r1) hZ (tw hw 121 rfl) (tw hw 111 rfl) (by decide) (by decide)) q101a q101c (g := (mkF m 2 #[vR cin, vI p1, .unset] [(.int p1), (.ref cin)])) rfl (by rw [hml]; rfl) (Steps.refl _) (argsL := [(.int p1)]) (rest := []) (lenOf pd_12 rfl) rfl (wL _) (hb hby d26_2) (fun _ _ => ⟨rfl, e0, (by decide : 0 + 0 ≤ _), (by decide : 0 + 0 ≤ _)⟩)
 dsimp only [Pt.U, Pt.locs, Pt.cells, Pt.slots] at X101 l101 y101 z101 st101 hQ101
 rw [l101] at X101
 subst y101 z101
 obtain ⟨rfl, N101q, H101⟩ := hQ101
 have N101 := Fr.app N0 N101q
 have pre103 : ∀ t, SS p e below T101 m 14 #[vR cin, vI p1, vI (tabA.getD p1.toNatClampNeg 0)] [(.int 16384), (.int ((tabA.getD p1.toNatClampNeg 0) &&& (28672 : Int32)))] t → SE p e below s₁ m #[(.ref cin), (.int p1)] 3 t := by
  intro t kt
  refine pre0 _ ?_
  show SS p e below s₁ m 0 #[vR cin, vI p1, .unset] [] _
  refine XS.aloadN X0.here hx rfl (hb hby d26_0) rfl rfl ?_
  refine XS.iloadN X0.here hx rfl (hb hby d26_1) rfl ?_
  show SS p e below s₁ m 2 #[vR cin, vI p1, .unset] [(.int p1), (.ref cin)] _
  refine st101.trans ?_
  refine XS.istoreN X101.here hx rfl (hb hby d26_5) rfl (l' := #[vR cin, vI p1, vI (tabA.getD p1.toNatClampNeg 0)]) rfl ?_
  refine XS.iloadN X101.here hx rfl (hb hby d26_6) rfl ?_
  refine XS.sipush X101.here hx rfl (hb hby d26_7) ?_
  refine XS.iand X101.here hx rfl (hb hby d26_10) rfl ?_
  refine XS.sipush X101.here hx rfl (hb hby d26_11) ?_
  exact kt
 by_cases hc102 : ((tabA.getD p1.toNatClampNeg 0) &&& (28672 : Int32)) = (16384 : Int32)
 ·skip
  obtain ⟨fs, hr, hrun, hended, hW, hsame⟩ := X101.leave (v := some (.int 1)) (nvr Bd.returns)
  refine ⟨_, _, pre103 _ ?_, hrun, hended, _, _, rfl, ?_, ⟨_, rfl⟩, hW, hsame.mono (by decide) (by decide)⟩
  ·skip
   show SS p e below T101 m 14 #[vR cin, vI p1, vI (tabA.getD p1.toNatClampNeg 0)] [(.int 16384), (.int ((tabA.getD p1.toNatClampNeg 0) &&& (28672 : Int32)))] _
   refine XS.icmpNo X101.here hx rfl (hb hby d26_14) rfl (teq hc102).2 ?_
   refine XS.iconst X101.here hx rfl (hb hby d26_17) ?_
   refine XS.goto X101.here hx rfl (pc0 := 18) (pc' := 22) rfl (hb hby d26_18) (by decide) (by decide) ?_
   show SS p e below T101 m 22 #[vR cin, vI p1, vI (tabA.getD p1.toNatClampNeg 0)] [(.int 1)] _
   exact retN X101 hx (t := .boolean) Bd.returns (by simp) (hb hby d26_22) hr
  ·show Q_rmIsw Z p1 cin ta kA h0 n0 _ T101.heap _
   rw [H101]
   exact ⟨by rw [(own_tab r1).1.mp hc102], N101, rfl⟩
 ·skip
  obtain ⟨fs, hr, hrun, hended, hW, hsame⟩ := X101.leave (v := some (.int 0)) (nvr Bd.returns)
  refine ⟨_, _, pre103 _ ?_, hrun, hended, _, _, rfl, ?_, ⟨_, rfl⟩, hW, hsame.mono (by decide) (by decide)⟩
  ·skip
   show SS p e below T101 m 14 #[vR cin, vI p1, vI (tabA.getD p1.toNatClampNeg 0)] [(.int 16384), (.int ((tabA.getD p1.toNatClampNeg 0) &&& (28672 : Int32)))] _
   refine XS.icmpYes X101.here hx rfl (pc0 := 14) (pc' := 21) rfl (hb hby d26_14) rfl (feq hc102).2 (by decide) (by decide) ?_
   refine XS.iconst X101.here hx rfl (hb hby d26_21) ?_
   show SS p e below T101 m 22 #[vR cin, vI p1, vI (tabA.getD p1.toNatClampNeg 0)] [(.int 0)] _
   exact retN X101 hx (t := .boolean) Bd.returns (by simp) (hb hby d26_22) hr
  ·show Q_rmIsw Z p1 cin ta kA h0 n0 _ T101.heap _
   rw [H101]
   exact ⟨by rw [(own_ws01 p1).resolve_right (fun q => hc102 ((own_tab r1).1.mpr q))], N101, rfl⟩
theorem d24_5 : DK cD25 5 (.iload_n 2) 1 := by decide +kernel
theorem d24_6 : DK cD25 6 (.iload_n 1) 1 := by decide +kernel
theorem d24_7 : DK cD25 7 (.if_icmp .ge 40) 3 := by decide +kernel
theorem d24_10 : DK cD25 10 (.aload_n 0) 1 := by decide +kernel
theorem d24_11 : DK cD25 11 (.iload_n 2) 1 := by decide +kernel
theorem d24_12 : DK cD25 12 (.invokestatic 50) 3 := by decide +kernel
theorem d24_15 : DK cD25 15 (.istore_n 3) 1 := by decide +kernel
theorem d24_16 : DK cD25 16 (.iload_n 3) 1 := by decide +kernel
theorem d24_17 : DK cD25 17 (.bipush 32) 2 := by decide +kernel
theorem d24_19 : DK cD25 19 (.if_icmp .eq 22) 3 := by decide +kernel
theorem d24_22 : DK cD25 22 (.iload_n 3) 1 := by decide +kernel
theorem d24_23 : DK cD25 23 (.bipush 9) 2 := by decide +kernel
theorem d24_25 : DK cD25 25 (.if_icmp .eq 16) 3 := by decide +kernel
theorem d24_28 : DK cD25 28 (.getstatic 66) 3 := by decide +kernel
theorem d24_31 : DK cD25 31 (.iload_n 3) 1 := by decide +kernel
theorem d24_32 : DK cD25 32 (.invokevirtual 211) 3 := by decide +kernel
theorem d24_35 : DK cD25 35 (.ifCond .ne 6) 3 := by decide +kernel
theorem d24_41 : DK cD25 41 (.iinc 2 1) 3 := by decide +kernel
theorem d24_44 : DK cD25 44 (.goto (-39)) 3 := by decide +kernel
theorem os_tnNwF_1 {z0 : Value} {z1 : Value} {z2 : Value} {s3 : Slot} {v : Int32} (h : One s3) : storeLocals #[.val z0, .val z1, .val z2, s3] 3 (.int v) = some #[.val z0, .val z1, .val z2, vI v] := by
 rcases h with rfl | ⟨w, rfl, hw⟩
 ·rfl
 ·cases w <;> first | rfl | (simp [Value.category] at hw)
theorem tnNwF {p : Program} {l : Launch} {e : Env} {s : State} {m : MethodId} {args : Array Value} {below : List Frame} {meth : Method} {c : Code} {T0 : State} {locs : List Loc} {Z : State} {a0 : Array Value} {h0 : Heap} {n0 : Nat} (a1 : Addr) (bs : List Int32) (k1 : ClassId) (cin ta : Addr) (kA : ClassId) (j : Nat) (s3 : Slot)
  (X0 : Stand p l e (Rm 2 0 0 40) s m args below meth c T0 locs 0 0) (hx : p.tables.exec = Jvm.exec) (hZ : Z.Warmed39 s.vm) (hw : HW a0 Z) (hby : c.code = jdk_43_method_37_code) (hml : c.maxLocals = 4) (hown : s.vm.findClass "java/lang/StringLatin1" = some m.cls) (e0 : T0.heap = h0) (O0 : Old Z n0 h0) (N0 : Fr n0 locs) (V1 : Arv Z h0 a1 k1 .byte (Int32.ofNat bs.length) (bs.map Value.int) (.int 0)) (hn : bs.length ≤ 40) (S_IN : Sta Z Z.heap "java/lang/CharacterDataLatin1" "instance" "Ljava/lang/CharacterDataLatin1;" (.ref cin)) (E_IN : Exa Z Z.heap cin "java/lang/CharacterDataLatin1") (S_A : Sta Z Z.heap "java/lang/CharacterDataLatin1" "A" "[I" (.ref ta)) (V_A : Arv Z Z.heap ta kA .int (256 : Int32) (tabA.map Value.int) (.int 0)) (hj : j < bs.length) (hws : wsC ((bs.getD j 0) &&& (255 : Int32)) = (1 : Int32)) (hs3 : One s3) :
  ∃ (T' : State) (h' : Heap) (L' : List Loc), Stand p l e (Rm 2 0 0 40) s m args below meth c T' L' 0 0 ∧ T'.heap = h' ∧ Fr n0 L' ∧ h' = h0 ∧ ∀ target, SS p e below T' m 5 #[vR a1, vI (Int32.ofNat bs.length), vI (Int32.ofNat (j + 1)), vI ((bs.getD j 0) &&& (255 : Int32))] [] target → SS p e below T0 m 5 #[vR a1, vI (Int32.ofNat bs.length), vI (Int32.ofNat j), s3] [] target := by
 have hn0 : n0 ≤ h0.size := O0.1 ▸ O0.2.1
 have pre0 : ∀ t, SS p e below T0 m 5 #[vR a1, vI (Int32.ofNat bs.length), vI (Int32.ofNat j), s3] [] t → SS p e below T0 m 5 #[vR a1, vI (Int32.ofNat bs.length), vI (Int32.ofNat j), s3] [] t := fun t k => k
 have E_in := Exa.ext O0.2 E_IN
 have V_a := V_A.ext O0.2
 obtain ⟨_, _, ⟨T101, L101, k101, n101⟩, -, X101, ⟨Lc101, hQ101, l101, y101, z101⟩, st101⟩ := Jvm.LawKit.callS X0 hx (y := mN7) hown (mvT hZ (tw hw 107 rfl)) (mvT hZ (tw hw 108 rfl)) (mvT hZ (tw hw 24 rfl)) (mvT hZ (tw hw 109 rfl)) (by decide) (backOf (W := 0) (rmGch l Z a0 hw [] a1 bs k1 j h0 n0 O0 V1 hn (by omega)) hZ (tw hw 109 rfl) (tw hw 24 rfl) (by decide) (by decide)) (g := (mkF m 12 #[vR a1, vI (Int32.ofNat bs.length), vI (Int32.ofNat j), s3] [(.int (Int32.ofNat j)), (.ref a1)])) rfl (by rw [hml]; rfl) (argsL := [(.ref a1), (.int (Int32.ofNat j))]) (rest := []) (lenOf pd_2 rfl) rfl (wL _) (hb hby d24_12) (fun _ _ => ⟨rfl, e0, (by decide : 0 + 0 ≤ _), (by decide : 0 + 0 ≤ _)⟩)
 dsimp only [Pt.U, Pt.locs, Pt.cells, Pt.slots] at X101 l101 y101 z101 st101 hQ101
 rw [l101] at X101
 subst y101 z101
 obtain ⟨rfl, N101q, H101⟩ := hQ101
 have N101 := Fr.app N0 N101q
 have pre103 : ∀ t, SS p e below T101 m 19 #[vR a1, vI (Int32.ofNat bs.length), vI (Int32.ofNat j), vI ((bs.getD j 0) &&& (255 : Int32))] [(.int 32), (.int ((bs.getD j 0) &&& (255 : Int32)))] t → SS p e below T0 m 5 #[vR a1, vI (Int32.ofNat bs.length), vI (Int32.ofNat j), s3] [] t := by
  intro t kt
  refine pre0 _ ?_
  show SS p e below T0 m 5 #[vR a1, vI (Int32.ofNat bs.length), vI (Int32.ofNat j), s3] [] _
  refine XS.iloadN X0.here hx rfl (hb hby d24_5) rfl ?_
  refine XS.iloadN X0.here hx rfl (hb hby d24_6) rfl ?_
  refine XS.icmpNo X0.here hx rfl (hb hby d24_7) rfl (tlt ((own_lt (by omega) (by omega)).mpr hj : (Int32.ofNat j) < (Int32.ofNat bs.length))).2.1 ?_
  refine XS.aloadN X0.here hx rfl (hb hby d24_10) rfl rfl ?_
  refine XS.iloadN X0.here hx rfl (hb hby d24_11) rfl ?_
  show SS p e below T0 m 12 #[vR a1, vI (Int32.ofNat bs.length), vI (Int32.ofNat j), s3] [(.int (Int32.ofNat j)), (.ref a1)] _
  refine st101 _ ?_
  refine XS.istoreN X101.here hx rfl (hb hby d24_15) rfl (l' := #[vR a1, vI (Int32.ofNat bs.length), vI (Int32.ofNat j), vI ((bs.getD j 0) &&& (255 : Int32))]) (os_tnNwF_1 hs3) ?_
  refine XS.iloadN X101.here hx rfl (hb hby d24_16) rfl ?_
  refine XS.bipush X101.here hx rfl (hb hby d24_17) ?_
  exact kt
 by_cases hc102 : ((bs.getD j 0) &&& (255 : Int32)) = (32 : Int32)
 ·skip
  refine ⟨T101, h0, _, X101, H101, N101, rfl, fun target kt => pre103 _ ?_⟩
  show SS p e below T101 m 19 #[vR a1, vI (Int32.ofNat bs.length), vI (Int32.ofNat j), vI ((bs.getD j 0) &&& (255 : Int32))] [(.int 32), (.int ((bs.getD j 0) &&& (255 : Int32)))] _
  refine XS.icmpYes X101.here hx rfl (pc0 := 19) (pc' := 41) rfl (hb hby d24_19) rfl (teq hc102).1 (by decide) (by decide) ?_
  refine XS.iinc X101.here hx rfl (hb hby d24_41) rfl (l' := #[vR a1, vI (Int32.ofNat bs.length), vI ((Int32.ofNat j) + (1 : Int32)), vI ((bs.getD j 0) &&& (255 : Int32))]) rfl ?_
  refine XS.goto X101.here hx rfl (pc0 := 44) (pc' := 5) rfl (hb hby d24_44) (by decide) (by decide) ?_
  show SS p e below T101 m 5 #[vR a1, vI (Int32.ofNat bs.length), vI ((Int32.ofNat j) + (1 : Int32)), vI ((bs.getD j 0) &&& (255 : Int32))] [] _
  rw [own_succ j]
  exact kt
 ·skip
  have pre105 : ∀ t, SS p e below T101 m 25 #[vR a1, vI (Int32.ofNat bs.length), vI (Int32.ofNat j), vI ((bs.getD j 0) &&& (255 : Int32))] [(.int 9), (.int ((bs.getD j 0) &&& (255 : Int32)))] t → SS p e below T0 m 5 #[vR a1, vI (Int32.ofNat bs.length), vI (Int32.ofNat j), s3] [] t := by
   intro t kt
   refine pre103 _ ?_
   show SS p e below T101 m 19 #[vR a1, vI (Int32.ofNat bs.length), vI (Int32.ofNat j), vI ((bs.getD j 0) &&& (255 : Int32))] [(.int 32), (.int ((bs.getD j 0) &&& (255 : Int32)))] _
   refine XS.icmpNo X101.here hx rfl (hb hby d24_19) rfl (feq hc102).1 ?_
   refine XS.iloadN X101.here hx rfl (hb hby d24_22) rfl ?_
   refine XS.bipush X101.here hx rfl (hb hby d24_23) ?_
   exact kt
  by_cases hc104 : ((bs.getD j 0) &&& (255 : Int32)) = (9 : Int32)
  ·skip
   refine ⟨T101, h0, _, X101, H101, N101, rfl, fun target kt => pre105 _ ?_⟩
   show SS p e below T101 m 25 #[vR a1, vI (Int32.ofNat bs.length), vI (Int32.ofNat j), vI ((bs.getD j 0) &&& (255 : Int32))] [(.int 9), (.int ((bs.getD j 0) &&& (255 : Int32)))] _
   refine XS.icmpYes X101.here hx rfl (pc0 := 25) (pc' := 41) rfl (hb hby d24_25) rfl (teq hc104).1 (by decide) (by decide) ?_
   refine XS.iinc X101.here hx rfl (hb hby d24_41) rfl (l' := #[vR a1, vI (Int32.ofNat bs.length), vI ((Int32.ofNat j) + (1 : Int32)), vI ((bs.getD j 0) &&& (255 : Int32))]) rfl ?_
   refine XS.goto X101.here hx rfl (pc0 := 44) (pc' := 5) rfl (hb hby d24_44) (by decide) (by decide) ?_
   show SS p e below T101 m 5 #[vR a1, vI (Int32.ofNat bs.length), vI ((Int32.ofNat j) + (1 : Int32)), vI ((bs.getD j 0) &&& (255 : Int32))] [] _
   rw [own_succ j]
   exact kt
  ·skip
   obtain ⟨T106, X106, e106, st106⟩ := getS2 X101 hx hZ hown (host := "") (Or.inl (tw hw 110 rfl)) Via.refl H101 (Sta.ext O0.2 S_IN) (g := (mkF m 28 #[vR a1, vI (Int32.ofNat bs.length), vI (Int32.ofNat j), vI ((bs.getD j 0) &&& (255 : Int32))] [])) rfl (hb hby d24_28)
   obtain ⟨cq107, kq107, q107a, q107b, q107c⟩ := isOf hZ e106 E_in
   obtain ⟨_, _, ⟨T107, L107, k107, n107⟩, -, X107, ⟨Lc107, hQ107, l107, y107, z107⟩, st107⟩ := X106.virtualBack hx (y := mN24) (z := mN24) hown (mvT hZ (tw hw 112 rfl)) (mvT hZ (tw hw 113 rfl)) (notFace_of_selects (args := #[]) (mvT hZ (tw hw 115 rfl))) (mvT hZ (tw hw 115 rfl)) (mvT hZ (tw hw 114 rfl)) (by decide) (backOf (W := 0) (rmIsw l Z a0 hw [] ((bs.getD j 0) &&& (255 : Int32)) cin ta kA h0 n0 O0 S_IN E_IN S_A V_A (own_c255b _)) hZ (tw hw 116 rfl) (tw hw 111 rfl) (by decide) (by decide)) q107a q107c (g := (mkF m 32 #[vR a1, vI (Int32.ofNat bs.length), vI (Int32.ofNat j), vI ((bs.getD j 0) &&& (255 : Int32))] [(.int ((bs.getD j 0) &&& (255 : Int32))), (.ref cin)])) rfl (by rw [hml]; rfl) (Steps.refl _) (argsL := [(.int ((bs.getD j 0) &&& (255 : Int32)))]) (rest := []) (lenOf pd_17 rfl) rfl (wL _) (hb hby d24_32) (fun _ _ => ⟨rfl, e106, (by decide : 0 + 0 ≤ _), (by decide : 0 + 0 ≤ _)⟩)
   dsimp only [Pt.U, Pt.locs, Pt.cells, Pt.slots] at X107 l107 y107 z107 st107 hQ107
   rw [l107] at X107
   subst y107 z107
   obtain ⟨rfl, N107q, H107⟩ := hQ107
   have N107 := Fr.app N101 N107q
   refine ⟨T107, h0, _, X107, H107, N107, rfl, fun target kt => pre105 _ ?_⟩
   show SS p e below T101 m 25 #[vR a1, vI (Int32.ofNat bs.length), vI (Int32.ofNat j), vI ((bs.getD j 0) &&& (255 : Int32))] [(.int 9), (.int ((bs.getD j 0) &&& (255 : Int32)))] _
   refine XS.icmpNo X101.here hx rfl (hb hby d24_25) rfl (feq hc104).1 ?_
   show SS p e below T101 m 28 #[vR a1, vI (Int32.ofNat bs.length), vI (Int32.ofNat j), vI ((bs.getD j 0) &&& (255 : Int32))] [] _
   refine st106 _ ?_
   refine XS.iloadN X106.here hx rfl (hb hby d24_31) rfl ?_
   show SS p e below T106 m 32 #[vR a1, vI (Int32.ofNat bs.length), vI (Int32.ofNat j), vI ((bs.getD j 0) &&& (255 : Int32))] [(.int ((bs.getD j 0) &&& (255 : Int32))), (.ref cin)] _
   refine st107.trans ?_
   refine XS.ifYes X107.here hx rfl (pc0 := 35) (pc' := 41) rfl (hb hby d24_35) rfl ((if0 _ _).trans (feq (by rw [hws]; decide : ¬ ((wsC ((bs.getD j 0) &&& (255 : Int32))) = (0 : Int32)))).2) (by decide) (by decide) ?_
   refine XS.iinc X107.here hx rfl (hb hby d24_41) rfl (l' := #[vR a1, vI (Int32.ofNat bs.length), vI ((Int32.ofNat j) + (1 : Int32)), vI ((bs.getD j 0) &&& (255 : Int32))]) rfl ?_
   refine XS.goto X107.here hx rfl (pc0 := 44) (pc' := 5) rfl (hb hby d24_44) (by decide) (by decide) ?_
   show SS p e below T107 m 5 #[vR a1, vI (Int32.ofNat bs.length), vI ((Int32.ofNat j) + (1 : Int32)), vI ((bs.getD j 0) &&& (255 : Int32))] [] _
   rw [own_succ j]
   exact kt
theorem lpNwF {p : Program} {l : Launch} {e : Env} {s : State} {m : MethodId} {args : Array Value} {below : List Frame} {meth : Method} {c : Code} {T0 : State} {locs : List Loc} {Z : State} {a0 : Array Value} {h0 : Heap} {n0 : Nat} (a1 : Addr) (bs : List Int32) (k1 : ClassId) (cin ta : Addr) (kA : ClassId) (M : Nat) (X0 : Stand p l e (Rm 2 0 0 40) s m args below meth c T0 locs 0 0) (hx : p.tables.exec = Jvm.exec) (hZ : Z.Warmed39 s.vm) (hw : HW a0 Z) (hby : c.code = jdk_43_method_37_code) (hml : c.maxLocals = 4) (hown : s.vm.findClass "java/lang/StringLatin1" = some m.cls) (e0 : T0.heap = h0) (O0 : Old Z n0 h0) (N0 : Fr n0 locs) (V1 : Arv Z h0 a1 k1 .byte (Int32.ofNat bs.length) (bs.map Value.int) (.int 0)) (hn : bs.length ≤ 40) (S_IN : Sta Z Z.heap "java/lang/CharacterDataLatin1" "instance" "Ljava/lang/CharacterDataLatin1;" (.ref cin)) (E_IN : Exa Z Z.heap cin "java/lang/CharacterDataLatin1") (S_A : Sta Z Z.heap "java/lang/CharacterDataLatin1" "A" "[I" (.ref ta)) (V_A : Arv Z Z.heap ta kA .int (256 : Int32) (tabA.map Value.int) (.int 0)) (hM : M ≤ bs.length) (hpre : ∀ j, j < M → wsC ((bs.getD j 0) &&& (255 : Int32)) = (1 : Int32)) :
  ∀ j, j ≤ M → ∃ (T' : State) (L' : List Loc) (s3 : Slot), Stand p l e (Rm 2 0 0 40) s m args below meth c T' L' 0 0 ∧ T'.heap = h0 ∧ Fr n0 L' ∧ One s3 ∧ ∀ target, SS p e below T' m 5 #[vR a1, vI (Int32.ofNat bs.length), vI (Int32.ofNat j), s3] [] target → SS p e below T0 m 5 #[vR a1, vI (Int32.ofNat bs.length), vI (Int32.ofNat 0), .unset] [] target := by
 intro j
 induction j with
 | zero => exact fun _ => ⟨T0, locs, .unset, X0, e0, N0, One.u, fun _ k => k⟩
 | succ j ih =>
  intro hj
  obtain ⟨T, L, s3, X, e1, N, hs3, st⟩ := ih (by omega)
  obtain ⟨T2, h2, L2, X2, e2, N2, rfl, st2⟩ := tnNwF a1 bs k1 cin ta kA j s3 X hx hZ hw hby hml hown e1 O0 N V1 hn S_IN E_IN S_A V_A (by omega) (hpre j (by omega)) hs3
  exact ⟨T2, L2, _, X2, e2, N2, One.val rfl, fun t k => st _ (st2 _ k)⟩
theorem d24_0 : DK cD25 0 (.aload_n 0) 1 := by decide +kernel
theorem d24_1 : DK cD25 1 (.arraylength) 1 := by decide +kernel
theorem d24_2 : DK cD25 2 (.istore_n 1) 1 := by decide +kernel
theorem d24_3 : DK cD25 3 (.iconst 0) 1 := by decide +kernel
theorem d24_4 : DK cD25 4 (.istore_n 2) 1 := by decide +kernel
theorem d24_38 : DK cD25 38 (.goto 9) 3 := by decide +kernel
theorem d24_47 : DK cD25 47 (.iload_n 2) 1 := by decide +kernel
theorem d24_48 : DK cD25 48 (.ireturn) 1 := by decide +kernel
theorem os_rmNwF_1 {z0 : Value} {z1 : Value} {z2 : Value} {s3 : Slot} {v : Int32} (h : One s3) : storeLocals #[.val z0, .val z1, .val z2, s3] 3 (.int v) = some #[.val z0, .val z1, .val z2, vI v] := by
 rcases h with rfl | ⟨w, rfl, hw⟩
 ·rfl
 ·cases w <;> first | rfl | (simp [Value.category] at hw)
theorem ef_rmNwF (m : MethodId) (y0 : Addr) : entryFrame m #[(.ref y0)] 4 = (mkF m 0 #[vR y0, .unset, .unset, .unset] []) := by first | (simp [entryFrame, mkF, argsToLocals, Value.category]; done) | rfl
def Q_rmNwF (Z : State) (a1 : Addr) (bs : List Int32) (k1 : ClassId) (cin ta : Addr) (kA : ClassId) (h0 : Heap) (n0 : Nat) (v : Option Value) (h : Heap) (L : List Loc) : Prop := v = some (.int (Int32.ofNat (aN bs))) ∧ Fr n0 L ∧ h = h0
theorem rmNwF (l : Launch) (Z : State) (a0 : Array Value) (hw : HW a0 Z) (ws : List Jvm.Cond) (a1 : Addr) (bs : List Int32) (k1 : ClassId) (cin ta : Addr) (kA : ClassId) (h0 : Heap) (n0 : Nat) (O0 : Old Z n0 h0) (V1 : Arv Z h0 a1 k1 .byte (Int32.ofNat bs.length) (bs.map Value.int) (.int 0)) (hn : bs.length ≤ 40) (S_IN : Sta Z Z.heap "java/lang/CharacterDataLatin1" "instance" "Ljava/lang/CharacterDataLatin1;" (.ref cin)) (E_IN : Exa Z Z.heap cin "java/lang/CharacterDataLatin1") (S_A : Sta Z Z.heap "java/lang/CharacterDataLatin1" "A" "[I" (.ref ta)) (V_A : Arv Z Z.heap ta kA .int (256 : Int32) (tabA.map Value.int) (.int 0)) :
  MF l mN25 jdk_43_method_37_code 4 (some .int) ws (Rm 2 0 0 40) Z #[(.ref a1)] h0 (Q_rmNwF Z a1 bs k1 cin ta kA h0 n0) := by
 refine MetFree.of_bodySF (plainFor_of_name pn_3) hisR ?_
 intro p e s m args below meth c s₁ Bd hml0 hP hK
 obtain ⟨rfl, hZ, hh⟩ := hP
 have hx := Bd.exec
 have hby := Bd.bytes
 have hml : c.maxLocals = 4 := hml0
 have hown : s.vm.findClass "java/lang/StringLatin1" = some m.cls := findClass_of_methodNamed Bd.named
 have X0 : Stand p l e (Rm 2 0 0 40) s m #[(.ref a1)] below meth c s₁ [] 0 0 := Stand.of_body Bd
 have e0 : s₁.heap = h0 := by rw [← hh, Bd.state]; rfl
 have N0 := Fr.nil n0
 have hn0 : n0 ≤ h0.size := O0.1 ▸ O0.2.1
 have pre0 : ∀ t, SS p e below s₁ m 0 #[vR a1, .unset, .unset, .unset] [] t → SE p e below s₁ m #[(.ref a1)] 4 t := fun t k => castTop (ef_rmNwF m a1) k
 have E_in := Exa.ext O0.2 E_IN
 have V_a := V_A.ext O0.2
 have hA := own_afacts bs
 have hB := own_bfacts bs
 have hA2 := hA.2.1
 have hB2 := hB.2.1
 obtain ⟨cl101, Ar101, q101, S101, Nn101, H101, G101⟩ := id V1
 have pre102 : ∀ t, SS p e below s₁ m 5 #[vR a1, vI (Int32.ofNat bs.length), vI 0, .unset] [] t → SE p e below s₁ m #[(.ref a1)] 4 t := by
  intro t kt
  refine pre0 _ ?_
  show SS p e below s₁ m 0 #[vR a1, .unset, .unset, .unset] [] _
  refine XS.aloadN X0.here hx rfl (hb hby d24_0) rfl rfl ?_
  show SS p e below s₁ m 1 #[vR a1, .unset, .unset, .unset] [(.ref a1)] _
  refine X0.arraylength hx (by rw [e0]; exact Ar101.1) (State.isArrayOf_alike hZ.alike Ar101.2.1) (g := (mkF m 1 #[vR a1, .unset, .unset, .unset] [(.ref a1)])) rfl rfl (hb hby d24_1) _ ?_
  rw [len_of S101 Nn101]
  refine XS.istoreN X0.here hx rfl (hb hby d24_2) rfl (l' := #[vR a1, vI (Int32.ofNat bs.length), .unset, .unset]) rfl ?_
  refine XS.iconst X0.here hx rfl (hb hby d24_3) ?_
  refine XS.istoreN X0.here hx rfl (hb hby d24_4) rfl (l' := #[vR a1, vI (Int32.ofNat bs.length), vI 0, .unset]) rfl ?_
  exact kt
 obtain ⟨T103, L103, s3, X103, e103, N103, hs3, st103⟩ := lpNwF a1 bs k1 cin ta kA (aN bs) X0 hx hZ hw hby hml hown e0 O0 N0 V1 hn S_IN E_IN S_A V_A hA.2.1 (fun j h => own_wsB.mp (hA.1 j h)) (aN bs) (Nat.le_refl _)
 have pre105 : ∀ t, SS p e below T103 m 7 #[vR a1, vI (Int32.ofNat bs.length), vI (Int32.ofNat (aN bs)), s3] [(.int (Int32.ofNat bs.length)), (.int (Int32.ofNat (aN bs)))] t → SE p e below s₁ m #[(.ref a1)] 4 t := by
  intro t kt
  refine pre102 _ ?_
  refine st103 _ ?_
  show SS p e below T103 m 5 #[vR a1, vI (Int32.ofNat bs.length), vI (Int32.ofNat (aN bs)), s3] [] _
  refine XS.iloadN X103.here hx rfl (hb hby d24_5) rfl ?_
  refine XS.iloadN X103.here hx rfl (hb hby d24_6) rfl ?_
  exact kt
 by_cases hc104 : (Int32.ofNat (aN bs)) < (Int32.ofNat bs.length)
 ·skip
  have hlt : aN bs < bs.length := (own_lt (by omega) (by omega)).mp hc104
  have hw0 := own_wsBf.mp (hA.2.2 hlt)
  obtain ⟨_, _, ⟨T106, L106, k106, n106⟩, -, X106, ⟨Lc106, hQ106, l106, y106, z106⟩, st106⟩ := Jvm.LawKit.callS X103 hx (y := mN7) hown (mvT hZ (tw hw 107 rfl)) (mvT hZ (tw hw 108 rfl)) (mvT hZ (tw hw 24 rfl)) (mvT hZ (tw hw 109 rfl)) (by decide) (backOf (W := 0) (rmGch l Z a0 hw [] a1 bs k1 (aN bs) h0 n0 O0 V1 hn (by omega)) hZ (tw hw 109 rfl) (tw hw 24 rfl) (by decide) (by decide)) (g := (mkF m 12 #[vR a1, vI (Int32.ofNat bs.length), vI (Int32.ofNat (aN bs)), s3] [(.int (Int32.ofNat (aN bs))), (.ref a1)])) rfl (by rw [hml]; rfl) (argsL := [(.ref a1), (.int (Int32.ofNat (aN bs)))]) (rest := []) (lenOf pd_2 rfl) rfl (wL _) (hb hby d24_12) (fun _ _ => ⟨rfl, e103, (by decide : 0 + 0 ≤ _), (by decide : 0 + 0 ≤ _)⟩)
  dsimp only [Pt.U, Pt.locs, Pt.cells, Pt.slots] at X106 l106 y106 z106 st106 hQ106
  rw [l106] at X106
  subst y106 z106
  obtain ⟨rfl, N106q, H106⟩ := hQ106
  have N106 := Fr.app N103 N106q
  obtain ⟨T107, X107, e107, st107⟩ := getS2 X106 hx hZ hown (host := "") (Or.inl (tw hw 110 rfl)) Via.refl H106 (Sta.ext O0.2 S_IN) (g := (mkF m 28 #[vR a1, vI (Int32.ofNat bs.length), vI (Int32.ofNat (aN bs)), vI ((bs.getD (aN bs) 0) &&& (255 : Int32))] [])) rfl (hb hby d24_28)
  obtain ⟨cq108, kq108, q108a, q108b, q108c⟩ := isOf hZ e107 E_in
  obtain ⟨_, _, ⟨T108, L108, k108, n108⟩, -, X108, ⟨Lc108, hQ108, l108, y108, z108⟩, st108⟩ := X107.virtualBack hx (y := mN24) (z := mN24) hown (mvT hZ (tw hw 112 rfl)) (mvT hZ (tw hw 113 rfl)) (notFace_of_selects (args := #[]) (mvT hZ (tw hw 115 rfl))) (mvT hZ (tw hw 115 rfl)) (mvT hZ (tw hw 114 rfl)) (by decide) (backOf (W := 0) (rmIsw l Z a0 hw [] ((bs.getD (aN bs) 0) &&& (255 : Int32)) cin ta kA h0 n0 O0 S_IN E_IN S_A V_A (own_c255b _)) hZ (tw hw 116 rfl) (tw hw 111 rfl) (by decide) (by decide)) q108a q108c (g := (mkF m 32 #[vR a1, vI (Int32.ofNat bs.length), vI (Int32.ofNat (aN bs)), vI ((bs.getD (aN bs) 0) &&& (255 : Int32))] [(.int ((bs.getD (aN bs) 0) &&& (255 : Int32))), (.ref cin)])) rfl (by rw [hml]; rfl) (Steps.refl _) (argsL := [(.int ((bs.getD (aN bs) 0) &&& (255 : Int32)))]) (rest := []) (lenOf pd_17 rfl) rfl (wL _) (hb hby d24_32) (fun _ _ => ⟨rfl, e107, (by decide : 0 + 0 ≤ _), (by decide : 0 + 0 ≤ _)⟩)
  dsimp only [Pt.U, Pt.locs, Pt.cells, Pt.slots] at X108 l108 y108 z108 st108 hQ108
  rw [l108] at X108
  subst y108 z108
  obtain ⟨rfl, N108q, H108⟩ := hQ108
  have N108 := Fr.app N106 N108q
  obtain ⟨fs, hr, hrun, hended, hW, hsame⟩ := X108.leave (v := some (.int (Int32.ofNat (aN bs)))) (nvr Bd.returns)
  refine ⟨_, _, pre105 _ ?_, hrun, hended, _, _, rfl, ?_, ⟨_, rfl⟩, hW, hsame.mono (by decide) (by decide)⟩
  ·skip
   show SS p e below T103 m 7 #[vR a1, vI (Int32.ofNat bs.length), vI (Int32.ofNat (aN bs)), s3] [(.int (Int32.ofNat bs.length)), (.int (Int32.ofNat (aN bs)))] _
   refine XS.icmpNo X103.here hx rfl (hb hby d24_7) rfl (tlt hc104).2.1 ?_
   refine XS.aloadN X103.here hx rfl (hb hby d24_10) rfl rfl ?_
   refine XS.iloadN X103.here hx rfl (hb hby d24_11) rfl ?_
   show SS p e below T103 m 12 #[vR a1, vI (Int32.ofNat bs.length), vI (Int32.ofNat (aN bs)), s3] [(.int (Int32.ofNat (aN bs))), (.ref a1)] _
   refine st106 _ ?_
   refine XS.istoreN X106.here hx rfl (hb hby d24_15) rfl (l' := #[vR a1, vI (Int32.ofNat bs.length), vI (Int32.ofNat (aN bs)), vI ((bs.getD (aN bs) 0) &&& (255 : Int32))]) (os_rmNwF_1 hs3) ?_
   refine XS.iloadN X106.here hx rfl (hb hby d24_16) rfl ?_
   refine XS.bipush X106.here hx rfl (hb hby d24_17) ?_
   refine XS.icmpNo X106.here hx rfl (hb hby d24_19) rfl (feq (fun q => by rw [q] at hw0; exact absurd hw0 (by decide) : ¬ (((bs.getD (aN bs) 0) &&& (255 : Int32)) = (32 : Int32)))).1 ?_
   refine XS.iloadN X106.here hx rfl (hb hby d24_22) rfl ?_
   refine XS.bipush X106.here hx rfl (hb hby d24_23) ?_
   refine XS.icmpNo X106.here hx rfl (hb hby d24_25) rfl (feq (fun q => by rw [q] at hw0; exact absurd hw0 (by decide) : ¬ (((bs.getD (aN bs) 0) &&& (255 : Int32)) = (9 : Int32)))).1 ?_
   show SS p e below T106 m 28 #[vR a1, vI (Int32.ofNat bs.length), vI (Int32.ofNat (aN bs)), vI ((bs.getD (aN bs) 0) &&& (255 : Int32))] [] _
   refine st107 _ ?_
   refine XS.iloadN X107.here hx rfl (hb hby d24_31) rfl ?_
   show SS p e below T107 m 32 #[vR a1, vI (Int32.ofNat bs.length), vI (Int32.ofNat (aN bs)), vI ((bs.getD (aN bs) 0) &&& (255 : Int32))] [(.int ((bs.getD (aN bs) 0) &&& (255 : Int32))), (.ref cin)] _
   refine st108.trans ?_
   refine XS.ifNo X108.here hx rfl (hb hby d24_35) rfl ((if0 _ _).trans (teq (hw0 : (wsC ((bs.getD (aN bs) 0) &&& (255 : Int32))) = (0 : Int32))).2) ?_
   refine XS.goto X108.here hx rfl (pc0 := 38) (pc' := 47) rfl (hb hby d24_38) (by decide) (by decide) ?_
   refine XS.iloadN X108.here hx rfl (hb hby d24_47) rfl ?_
   show SS p e below T108 m 48 #[vR a1, vI (Int32.ofNat bs.length), vI (Int32.ofNat (aN bs)), vI ((bs.getD (aN bs) 0) &&& (255 : Int32))] [(.int (Int32.ofNat (aN bs)))] _
   exact retI X108 hx Bd.returns (hb hby d24_48) hr
  ·show Q_rmNwF Z a1 bs k1 cin ta kA h0 n0 _ T108.heap _
   rw [H108]
   exact ⟨rfl, N108, rfl⟩
 ·skip
  obtain ⟨fs, hr, hrun, hended, hW, hsame⟩ := X103.leave (v := some (.int (Int32.ofNat (aN bs)))) (nvr Bd.returns)
  refine ⟨_, _, pre105 _ ?_, hrun, hended, _, _, rfl, ?_, ⟨_, rfl⟩, hW, hsame.mono (by decide) (by decide)⟩
  ·skip
   show SS p e below T103 m 7 #[vR a1, vI (Int32.ofNat bs.length), vI (Int32.ofNat (aN bs)), s3] [(.int (Int32.ofNat bs.length)), (.int (Int32.ofNat (aN bs)))] _
   refine XS.icmpYes X103.here hx rfl (pc0 := 7) (pc' := 47) rfl (hb hby d24_7) rfl (flt hc104).2.1 (by decide) (by decide) ?_
   refine XS.iloadN X103.here hx rfl (hb hby d24_47) rfl ?_
   show SS p e below T103 m 48 #[vR a1, vI (Int32.ofNat bs.length), vI (Int32.ofNat (aN bs)), s3] [(.int (Int32.ofNat (aN bs)))] _
   exact retI X103 hx Bd.returns (hb hby d24_48) hr
  ·show Q_rmNwF Z a1 bs k1 cin ta kA h0 n0 _ T103.heap _
   rw [e103]
   exact ⟨rfl, N103, rfl⟩
theorem d28_5 : DK cD26 5 (.iconst 0) 1 := by decide +kernel
theorem d28_6 : DK cD26 6 (.iload_n 2) 1 := by decide +kernel
theorem d28_7 : DK cD26 7 (.if_icmp .ge 42) 3 := by decide +kernel
theorem d28_10 : DK cD26 10 (.aload_n 0) 1 := by decide +kernel
theorem d28_11 : DK cD26 11 (.iload_n 2) 1 := by decide +kernel
theorem d28_12 : DK cD26 12 (.iconst 1) 1 := by decide +kernel
theorem d28_13 : DK cD26 13 (.isub) 1 := by decide +kernel
theorem d28_14 : DK cD26 14 (.invokestatic 50) 3 := by decide +kernel
theorem d28_17 : DK cD26 17 (.istore_n 3) 1 := by decide +kernel
theorem d28_18 : DK cD26 18 (.iload_n 3) 1 := by decide +kernel
theorem d28_19 : DK cD26 19 (.bipush 32) 2 := by decide +kernel
theorem d28_21 : DK cD26 21 (.if_icmp .eq 22) 3 := by decide +kernel
theorem d28_24 : DK cD26 24 (.iload_n 3) 1 := by decide +kernel
theorem d28_25 : DK cD26 25 (.bipush 9) 2 := by decide +kernel
theorem d28_27 : DK cD26 27 (.if_icmp .eq 16) 3 := by decide +kernel
theorem d28_30 : DK cD26 30 (.getstatic 66) 3 := by decide +kernel
theorem d28_33 : DK cD26 33 (.iload_n 3) 1 := by decide +kernel
theorem d28_34 : DK cD26 34 (.invokevirtual 211) 3 := by decide +kernel
theorem d28_37 : DK cD26 37 (.ifCond .ne 6) 3 := by decide +kernel
theorem d28_43 : DK cD26 43 (.iinc 2 (-1)) 3 := by decide +kernel
theorem d28_46 : DK cD26 46 (.goto (-41)) 3 := by decide +kernel
theorem os_tnNwB_1 {z0 : Value} {z1 : Value} {z2 : Value} {s3 : Slot} {v : Int32} (h : One s3) : storeLocals #[.val z0, .val z1, .val z2, s3] 3 (.int v) = some #[.val z0, .val z1, .val z2, vI v] := by
 rcases h with rfl | ⟨w, rfl, hw⟩
 ·rfl
 ·cases w <;> first | rfl | (simp [Value.category] at hw)
theorem tnNwB {p : Program} {l : Launch} {e : Env} {s : State} {m : MethodId} {args : Array Value} {below : List Frame} {meth : Method} {c : Code} {T0 : State} {locs : List Loc} {Z : State} {a0 : Array Value} {h0 : Heap} {n0 : Nat} (a1 : Addr) (bs : List Int32) (k1 : ClassId) (cin ta : Addr) (kA : ClassId) (j : Nat) (s3 : Slot)
  (X0 : Stand p l e (Rm 2 0 0 40) s m args below meth c T0 locs 0 0) (hx : p.tables.exec = Jvm.exec) (hZ : Z.Warmed39 s.vm) (hw : HW a0 Z) (hby : c.code = jdk_43_method_38_code) (hml : c.maxLocals = 4) (hown : s.vm.findClass "java/lang/StringLatin1" = some m.cls) (e0 : T0.heap = h0) (O0 : Old Z n0 h0) (N0 : Fr n0 locs) (V1 : Arv Z h0 a1 k1 .byte (Int32.ofNat bs.length) (bs.map Value.int) (.int 0)) (hn : bs.length ≤ 40) (S_IN : Sta Z Z.heap "java/lang/CharacterDataLatin1" "instance" "Ljava/lang/CharacterDataLatin1;" (.ref cin)) (E_IN : Exa Z Z.heap cin "java/lang/CharacterDataLatin1") (S_A : Sta Z Z.heap "java/lang/CharacterDataLatin1" "A" "[I" (.ref ta)) (V_A : Arv Z Z.heap ta kA .int (256 : Int32) (tabA.map Value.int) (.int 0)) (hj0 : 0 < j) (hj : j ≤ bs.length) (hws : wsC ((bs.getD (j - 1) 0) &&& (255 : Int32)) = (1 : Int32)) (hs3 : One s3) :
  ∃ (T' : State) (h' : Heap) (L' : List Loc), Stand p l e (Rm 2 0 0 40) s m args below meth c T' L' 0 0 ∧ T'.heap = h' ∧ Fr n0 L' ∧ h' = h0 ∧ ∀ target, SS p e below T' m 5 #[vR a1, vI (Int32.ofNat bs.length), vI (Int32.ofNat (j - 1)), vI ((bs.getD (j - 1) 0) &&& (255 : Int32))] [] target → SS p e below T0 m 5 #[vR a1, vI (Int32.ofNat bs.length), vI (Int32.ofNat j), s3] [] target := by
 have hn0 : n0 ≤ h0.size := O0.1 ▸ O0.2.1
 have pre0 : ∀ t, SS p e below T0 m 5 #[vR a1, vI (Int32.ofNat bs.length), vI (Int32.ofNat j), s3] [] t → SS p e below T0 m 5 #[vR a1, vI (Int32.ofNat bs.length), vI (Int32.ofNat j), s3] [] t := fun t k => k
 have E_in := Exa.ext O0.2 E_IN
 have V_a := V_A.ext O0.2
 have hr101 : ((Int32.ofNat j) - (1 : Int32)) = (Int32.ofNat (j - 1)) := own_subN (a := 1) hj0
 obtain ⟨_, _, ⟨T102, L102, k102, n102⟩, -, X102, ⟨Lc102, hQ102, l102, y102, z102⟩, st102⟩ := Jvm.LawKit.callS X0 hx (y := mN7) hown (mvT hZ (tw hw 107 rfl)) (mvT hZ (tw hw 108 rfl)) (mvT hZ (tw hw 24 rfl)) (mvT hZ (tw hw 109 rfl)) (by decide) (backOf (W := 0) (rmGch l Z a0 hw [] a1 bs k1 (j - 1) h0 n0 O0 V1 hn (by omega)) hZ (tw hw 109 rfl) (tw hw 24 rfl) (by decide) (by decide)) (g := (mkF m 14 #[vR a1, vI (Int32.ofNat bs.length), vI (Int32.ofNat j), s3] [(.int (Int32.ofNat (j - 1))), (.ref a1)])) rfl (by rw [hml]; rfl) (argsL := [(.ref a1), (.int (Int32.ofNat (j - 1)))]) (rest := []) (lenOf pd_2 rfl) rfl (wL _) (hb hby d28_14) (fun _ _ => ⟨rfl, e0, (by decide : 0 + 0 ≤ _), (by decide : 0 + 0 ≤ _)⟩)
 dsimp only [Pt.U, Pt.locs, Pt.cells, Pt.slots] at X102 l102 y102 z102 st102 hQ102
 rw [l102] at X102
 subst y102 z102
 obtain ⟨rfl, N102q, H102⟩ := hQ102
 have N102 := Fr.app N0 N102q
 have pre104 : ∀ t, SS p e below T102 m 21 #[vR a1, vI (Int32.ofNat bs.length), vI (Int32.ofNat j), vI ((bs.getD (j - 1) 0) &&& (255 : Int32))] [(.int 32), (.int ((bs.getD (j - 1) 0) &&& (255 : Int32)))] t → SS p e below T0 m 5 #[vR a1, vI (Int32.ofNat bs.length), vI (Int32.ofNat j), s3] [] t := by
  intro t kt
  refine pre0 _ ?_
  show SS p e below T0 m 5 #[vR a1, vI (Int32.ofNat bs.length), vI (Int32.ofNat j), s3] [] _
  refine XS.iconst X0.here hx rfl (hb hby d28_5) ?_
  refine XS.iloadN X0.here hx rfl (hb hby d28_6) rfl ?_
  refine XS.icmpNo X0.here hx rfl (hb hby d28_7) rfl (tlt ((own_lt (i := 0) (by decide) (by omega)).mpr hj0 : (0 : Int32) < (Int32.ofNat j))).2.1 ?_
  refine XS.aloadN X0.here hx rfl (hb hby d28_10) rfl rfl ?_
  refine XS.iloadN X0.here hx rfl (hb hby d28_11) rfl ?_
  refine XS.iconst X0.here hx rfl (hb hby d28_12) ?_
  refine XS.isub X0.here hx rfl (hb hby d28_13) rfl ?_
  show SS p e below T0 m 14 #[vR a1, vI (Int32.ofNat bs.length), vI (Int32.ofNat j), s3] [(.int ((Int32.ofNat j) - (1 : Int32))), (.ref a1)] _
  rw [hr101]
  show SS p e below T0 m 14 #[vR a1, vI (Int32.ofNat bs.length), vI (Int32.ofNat j), s3] [(.int (Int32.ofNat (j - 1))), (.ref a1)] _
  refine st102 _ ?_
  refine XS.istoreN X102.here hx rfl (hb hby d28_17) rfl (l' := #[vR a1, vI (Int32.ofNat bs.length), vI (Int32.ofNat j), vI ((bs.getD (j - 1) 0) &&& (255 : Int32))]) (os_tnNwB_1 hs3) ?_
  refine XS.iloadN X102.here hx rfl (hb hby d28_18) rfl ?_
  refine XS.bipush X102.here hx rfl (hb hby d28_19) ?_
  exact kt
 by_cases hc103 : ((bs.getD (j - 1) 0) &&& (255 : Int32)) = (32 : Int32)
 ·skip
  refine ⟨T102, h0, _, X102, H102, N102, rfl, fun target kt => pre104 _ ?_⟩
  show SS p e below T102 m 21 #[vR a1, vI (Int32.ofNat bs.length), vI (Int32.ofNat j), vI ((bs.getD (j - 1) 0) &&& (255 : Int32))] [(.int 32), (.int ((bs.getD (j - 1) 0) &&& (255 : Int32)))] _
  refine XS.icmpYes X102.here hx rfl (pc0 := 21) (pc' := 43) rfl (hb hby d28_21) rfl (teq hc103).1 (by decide) (by decide) ?_
  refine XS.iinc X102.here hx rfl (hb hby d28_43) rfl (l' := #[vR a1, vI (Int32.ofNat bs.length), vI ((Int32.ofNat j) + (-1 : Int32)), vI ((bs.getD (j - 1) 0) &&& (255 : Int32))]) rfl ?_
  refine XS.goto X102.here hx rfl (pc0 := 46) (pc' := 5) rfl (hb hby d28_46) (by decide) (by decide) ?_
  show SS p e below T102 m 5 #[vR a1, vI (Int32.ofNat bs.length), vI ((Int32.ofNat j) + (-1 : Int32)), vI ((bs.getD (j - 1) 0) &&& (255 : Int32))] [] _
  rw [own_pred hj0]
  exact kt
 ·skip
  have pre106 : ∀ t, SS p e below T102 m 27 #[vR a1, vI (Int32.ofNat bs.length), vI (Int32.ofNat j), vI ((bs.getD (j - 1) 0) &&& (255 : Int32))] [(.int 9), (.int ((bs.getD (j - 1) 0) &&& (255 : Int32)))] t → SS p e below T0 m 5 #[vR a1, vI (Int32.ofNat bs.length), vI (Int32.ofNat j), s3] [] t := by
   intro t kt
   refine pre104 _ ?_
   show SS p e below T102 m 21 #[vR a1, vI (Int32.ofNat bs.length), vI (Int32.ofNat j), vI ((bs.getD (j - 1) 0) &&& (255 : Int32))] [(.int 32), (.int ((bs.getD (j - 1) 0) &&& (255 : Int32)))] _
   refine XS.icmpNo X102.here hx rfl (hb hby d28_21) rfl (feq hc103).1 ?_
   refine XS.iloadN X102.here hx rfl (hb hby d28_24) rfl ?_
   refine XS.bipush X102.here hx rfl (hb hby d28_25) ?_
   exact kt
  by_cases hc105 : ((bs.getD (j - 1) 0) &&& (255 : Int32)) = (9 : Int32)
  ·skip
   refine ⟨T102, h0, _, X102, H102, N102, rfl, fun target kt => pre106 _ ?_⟩
   show SS p e below T102 m 27 #[vR a1, vI (Int32.ofNat bs.length), vI (Int32.ofNat j), vI ((bs.getD (j - 1) 0) &&& (255 : Int32))] [(.int 9), (.int ((bs.getD (j - 1) 0) &&& (255 : Int32)))] _
   refine XS.icmpYes X102.here hx rfl (pc0 := 27) (pc' := 43) rfl (hb hby d28_27) rfl (teq hc105).1 (by decide) (by decide) ?_
   refine XS.iinc X102.here hx rfl (hb hby d28_43) rfl (l' := #[vR a1, vI (Int32.ofNat bs.length), vI ((Int32.ofNat j) + (-1 : Int32)), vI ((bs.getD (j - 1) 0) &&& (255 : Int32))]) rfl ?_
   refine XS.goto X102.here hx rfl (pc0 := 46) (pc' := 5) rfl (hb hby d28_46) (by decide) (by decide) ?_
   show SS p e below T102 m 5 #[vR a1, vI (Int32.ofNat bs.length), vI ((Int32.ofNat j) + (-1 : Int32)), vI ((bs.getD (j - 1) 0) &&& (255 : Int32))] [] _
   rw [own_pred hj0]
   exact kt
  ·skip
   obtain ⟨T107, X107, e107, st107⟩ := getS2 X102 hx hZ hown (host := "") (Or.inl (tw hw 110 rfl)) Via.refl H102 (Sta.ext O0.2 S_IN) (g := (mkF m 30 #[vR a1, vI (Int32.ofNat bs.length), vI (Int32.ofNat j), vI ((bs.getD (j - 1) 0) &&& (255 : Int32))] [])) rfl (hb hby d28_30)
   obtain ⟨cq108, kq108, q108a, q108b, q108c⟩ := isOf hZ e107 E_in
   obtain ⟨_, _, ⟨T108, L108, k108, n108⟩, -, X108, ⟨Lc108, hQ108, l108, y108, z108⟩, st108⟩ := X107.virtualBack hx (y := mN24) (z := mN24) hown (mvT hZ (tw hw 112 rfl)) (mvT hZ (tw hw 113 rfl)) (notFace_of_selects (args := #[]) (mvT hZ (tw hw 115 rfl))) (mvT hZ (tw hw 115 rfl)) (mvT hZ (tw hw 114 rfl)) (by decide) (backOf (W := 0) (rmIsw l Z a0 hw [] ((bs.getD (j - 1) 0) &&& (255 : Int32)) cin ta kA h0 n0 O0 S_IN E_IN S_A V_A (own_c255b _)) hZ (tw hw 116 rfl) (tw hw 111 rfl) (by decide) (by decide)) q108a q108c (g := (mkF m 34 #[vR a1, vI (Int32.ofNat bs.length), vI (Int32.ofNat j), vI ((bs.getD (j - 1) 0) &&& (255 : Int32))] [(.int ((bs.getD (j - 1) 0) &&& (255 : Int32))), (.ref cin)])) rfl (by rw [hml]; rfl) (Steps.refl _) (argsL := [(.int ((bs.getD (j - 1) 0) &&& (255 : Int32)))]) (rest := []) (lenOf pd_17 rfl) rfl (wL _) (hb hby d28_34) (fun _ _ => ⟨rfl, e107, (by decide : 0 + 0 ≤ _), (by decide : 0 + 0 ≤ _)⟩)
   dsimp only [Pt.U, Pt.locs, Pt.cells, Pt.slots] at X108 l108 y108 z108 st108 hQ108
   rw [l108] at X108
   subst y108 z108
   obtain ⟨rfl, N108q, H108⟩ := hQ108
   have N108 := Fr.app N102 N108q
   refine ⟨T108, h0, _, X108, H108, N108, rfl, fun target kt => pre106 _ ?_⟩
   show SS p e below T102 m 27 #[vR a1, vI (Int32.ofNat bs.length), vI (Int32.ofNat j), vI ((bs.getD (j - 1) 0) &&& (255 : Int32))] [(.int 9), (.int ((bs.getD (j - 1) 0) &&& (255 : Int32)))] _
   refine XS.icmpNo X102.here hx rfl (hb hby d28_27) rfl (feq hc105).1 ?_
   show SS p e below T102 m 30 #[vR a1, vI (Int32.ofNat bs.length), vI (Int32.ofNat j), vI ((bs.getD (j - 1) 0) &&& (255 : Int32))] [] _
   refine st107 _ ?_
   refine XS.iloadN X107.here hx rfl (hb hby d28_33) rfl ?_
   show SS p e below T107 m 34 #[vR a1, vI (Int32.ofNat bs.length), vI (Int32.ofNat j), vI ((bs.getD (j - 1) 0) &&& (255 : Int32))] [(.int ((bs.getD (j - 1) 0) &&& (255 : Int32))), (.ref cin)] _
   refine st108.trans ?_
   refine XS.ifYes X108.here hx rfl (pc0 := 37) (pc' := 43) rfl (hb hby d28_37) rfl ((if0 _ _).trans (feq (by rw [hws]; decide : ¬ ((wsC ((bs.getD (j - 1) 0) &&& (255 : Int32))) = (0 : Int32)))).2) (by decide) (by decide) ?_
   refine XS.iinc X108.here hx rfl (hb hby d28_43) rfl (l' := #[vR a1, vI (Int32.ofNat bs.length), vI ((Int32.ofNat j) + (-1 : Int32)), vI ((bs.getD (j - 1) 0) &&& (255 : Int32))]) rfl ?_
   refine XS.goto X108.here hx rfl (pc0 := 46) (pc' := 5) rfl (hb hby d28_46) (by decide) (by decide) ?_
   show SS p e below T108 m 5 #[vR a1, vI (Int32.ofNat bs.length), vI ((Int32.ofNat j) + (-1 : Int32)), vI ((bs.getD (j - 1) 0) &&& (255 : Int32))] [] _
   rw [own_pred hj0]
   exact kt
theorem lpNwB {p : Program} {l : Launch} {e : Env} {s : State} {m : MethodId} {args : Array Value} {below : List Frame} {meth : Method} {c : Code} {T0 : State} {locs : List Loc} {Z : State} {a0 : Array Value} {h0 : Heap} {n0 : Nat} (a1 : Addr) (bs : List Int32) (k1 : ClassId) (cin ta : Addr) (kA : ClassId) (M : Nat) (X0 : Stand p l e (Rm 2 0 0 40) s m args below meth c T0 locs 0 0) (hx : p.tables.exec = Jvm.exec) (hZ : Z.Warmed39 s.vm) (hw : HW a0 Z) (hby : c.code = jdk_43_method_38_code) (hml : c.maxLocals = 4) (hown : s.vm.findClass "java/lang/StringLatin1" = some m.cls) (e0 : T0.heap = h0) (O0 : Old Z n0 h0) (N0 : Fr n0 locs) (V1 : Arv Z h0 a1 k1 .byte (Int32.ofNat bs.length) (bs.map Value.int) (.int 0)) (hn : bs.length ≤ 40) (S_IN : Sta Z Z.heap "java/lang/CharacterDataLatin1" "instance" "Ljava/lang/CharacterDataLatin1;" (.ref cin)) (E_IN : Exa Z Z.heap cin "java/lang/CharacterDataLatin1") (S_A : Sta Z Z.heap "java/lang/CharacterDataLatin1" "A" "[I" (.ref ta)) (V_A : Arv Z Z.heap ta kA .int (256 : Int32) (tabA.map Value.int) (.int 0)) (hM : M ≤ bs.length) (hpre : ∀ j, j < M → wsC ((bs.getD (bs.length - 1 - j) 0) &&& (255 : Int32)) = (1 : Int32)) :
  ∀ j, j ≤ M → ∃ (T' : State) (L' : List Loc) (s3 : Slot), Stand p l e (Rm 2 0 0 40) s m args below meth c T' L' 0 0 ∧ T'.heap = h0 ∧ Fr n0 L' ∧ One s3 ∧ ∀ target, SS p e below T' m 5 #[vR a1, vI (Int32.ofNat bs.length), vI (Int32.ofNat (bs.length - j)), s3] [] target → SS p e below T0 m 5 #[vR a1, vI (Int32.ofNat bs.length), vI (Int32.ofNat (bs.length - 0)), .unset] [] target := by
 intro j
 induction j with
 | zero => exact fun _ => ⟨T0, locs, .unset, X0, e0, N0, One.u, fun _ k => k⟩
 | succ j ih =>
  intro hj
  obtain ⟨T, L, s3, X, e1, N, hs3, st⟩ := ih (by omega)
  obtain ⟨T2, h2, L2, X2, e2, N2, rfl, st2⟩ := tnNwB a1 bs k1 cin ta kA (bs.length - j) s3 X hx hZ hw hby hml hown e1 O0 N V1 hn S_IN E_IN S_A V_A (by omega) (by omega) (by rw [show bs.length - j - 1 = bs.length - 1 - j by omega]; exact hpre j (by omega)) hs3
  exact ⟨T2, L2, _, X2, e2, N2, One.val rfl, fun t k => st _ (st2 _ (by rw [show bs.length - j - 1 = bs.length - (j + 1) by omega]; exact k))⟩
theorem d28_0 : DK cD26 0 (.aload_n 0) 1 := by decide +kernel
theorem d28_1 : DK cD26 1 (.arraylength) 1 := by decide +kernel
theorem d28_2 : DK cD26 2 (.istore_n 1) 1 := by decide +kernel
theorem d28_3 : DK cD26 3 (.iload_n 1) 1 := by decide +kernel
theorem d28_4 : DK cD26 4 (.istore_n 2) 1 := by decide +kernel
theorem d28_40 : DK cD26 40 (.goto 9) 3 := by decide +kernel
theorem d28_49 : DK cD26 49 (.iload_n 2) 1 := by decide +kernel
theorem d28_50 : DK cD26 50 (.ireturn) 1 := by decide +kernel
theorem os_rmNwB_1 {z0 : Value} {z1 : Value} {z2 : Value} {s3 : Slot} {v : Int32} (h : One s3) : storeLocals #[.val z0, .val z1, .val z2, s3] 3 (.int v) = some #[.val z0, .val z1, .val z2, vI v] := by
 rcases h with rfl | ⟨w, rfl, hw⟩
 ·rfl
 ·cases w <;> first | rfl | (simp [Value.category] at hw)
theorem ef_rmNwB (m : MethodId) (y0 : Addr) : entryFrame m #[(.ref y0)] 4 = (mkF m 0 #[vR y0, .unset, .unset, .unset] []) := by first | (simp [entryFrame, mkF, argsToLocals, Value.category]; done) | rfl
def Q_rmNwB (Z : State) (a1 : Addr) (bs : List Int32) (k1 : ClassId) (cin ta : Addr) (kA : ClassId) (h0 : Heap) (n0 : Nat) (v : Option Value) (h : Heap) (L : List Loc) : Prop := v = some (.int (Int32.ofNat (bN bs))) ∧ Fr n0 L ∧ h = h0
theorem rmNwB (l : Launch) (Z : State) (a0 : Array Value) (hw : HW a0 Z) (ws : List Jvm.Cond) (a1 : Addr) (bs : List Int32) (k1 : ClassId) (cin ta : Addr) (kA : ClassId) (h0 : Heap) (n0 : Nat) (O0 : Old Z n0 h0) (V1 : Arv Z h0 a1 k1 .byte (Int32.ofNat bs.length) (bs.map Value.int) (.int 0)) (hn : bs.length ≤ 40) (S_IN : Sta Z Z.heap "java/lang/CharacterDataLatin1" "instance" "Ljava/lang/CharacterDataLatin1;" (.ref cin)) (E_IN : Exa Z Z.heap cin "java/lang/CharacterDataLatin1") (S_A : Sta Z Z.heap "java/lang/CharacterDataLatin1" "A" "[I" (.ref ta)) (V_A : Arv Z Z.heap ta kA .int (256 : Int32) (tabA.map Value.int) (.int 0)) :
  MF l mN26 jdk_43_method_38_code 4 (some .int) ws (Rm 2 0 0 40) Z #[(.ref a1)] h0 (Q_rmNwB Z a1 bs k1 cin ta kA h0 n0) := by
 refine MetFree.of_bodySF (plainFor_of_name pn_3) hisR ?_
 intro p e s m args below meth c s₁ Bd hml0 hP hK
 obtain ⟨rfl, hZ, hh⟩ := hP
 have hx := Bd.exec
 have hby := Bd.bytes
 have hml : c.maxLocals = 4 := hml0
 have hown : s.vm.findClass "java/lang/StringLatin1" = some m.cls := findClass_of_methodNamed Bd.named
 have X0 : Stand p l e (Rm 2 0 0 40) s m #[(.ref a1)] below meth c s₁ [] 0 0 := Stand.of_body Bd
 have e0 : s₁.heap = h0 := by rw [← hh, Bd.state]; rfl
 have N0 := Fr.nil n0
 have hn0 : n0 ≤ h0.size := O0.1 ▸ O0.2.1
 have pre0 : ∀ t, SS p e below s₁ m 0 #[vR a1, .unset, .unset, .unset] [] t → SE p e below s₁ m #[(.ref a1)] 4 t := fun t k => castTop (ef_rmNwB m a1) k
 have E_in := Exa.ext O0.2 E_IN
 have V_a := V_A.ext O0.2
 have hA := own_afacts bs
 have hB := own_bfacts bs
 have hA2 := hA.2.1
 have hB2 := hB.2.1
 obtain ⟨cl101, Ar101, q101, S101, Nn101, H101, G101⟩ := id V1
 have pre102 : ∀ t, SS p e below s₁ m 5 #[vR a1, vI (Int32.ofNat bs.length), vI (Int32.ofNat bs.length), .unset] [] t → SE p e below s₁ m #[(.ref a1)] 4 t := by
  intro t kt
  refine pre0 _ ?_
  show SS p e below s₁ m 0 #[vR a1, .unset, .unset, .unset] [] _
  refine XS.aloadN X0.here hx rfl (hb hby d28_0) rfl rfl ?_
  show SS p e below s₁ m 1 #[vR a1, .unset, .unset, .unset] [(.ref a1)] _
  refine X0.arraylength hx (by rw [e0]; exact Ar101.1) (State.isArrayOf_alike hZ.alike Ar101.2.1) (g := (mkF m 1 #[vR a1, .unset, .unset, .unset] [(.ref a1)])) rfl rfl (hb hby d28_1) _ ?_
  rw [len_of S101 Nn101]
  refine XS.istoreN X0.here hx rfl (hb hby d28_2) rfl (l' := #[vR a1, vI (Int32.ofNat bs.length), .unset, .unset]) rfl ?_
  refine XS.iloadN X0.here hx rfl (hb hby d28_3) rfl ?_
  refine XS.istoreN X0.here hx rfl (hb hby d28_4) rfl (l' := #[vR a1, vI (Int32.ofNat bs.length), vI (Int32.ofNat bs.length), .unset]) rfl ?_
  exact kt
 obtain ⟨T103, L103, s3, X103, e103, N103, hs3, st103⟩ := lpNwB a1 bs k1 cin ta kA (bs.length - bN bs) X0 hx hZ hw hby hml hown e0 O0 N0 V1 hn S_IN E_IN S_A V_A (by omega) (fun j h => own_wsB.mp (hB.1 _ (by omega) (by omega))) (bs.length - bN bs) (Nat.le_refl _)
 rw [show bs.length - (bs.length - bN bs) = bN bs by omega] at st103
 have pre105 : ∀ t, SS p e below T103 m 7 #[vR a1, vI (Int32.ofNat bs.length), vI (Int32.ofNat (bN bs)), s3] [(.int (Int32.ofNat (bN bs))), (.int 0)] t → SE p e below s₁ m #[(.ref a1)] 4 t := by
  intro t kt
  refine pre102 _ ?_
  refine st103 _ ?_
  show SS p e below T103 m 5 #[vR a1, vI (Int32.ofNat bs.length), vI (Int32.ofNat (bN bs)), s3] [] _
  refine XS.iconst X103.here hx rfl (hb hby d28_5) ?_
  refine XS.iloadN X103.here hx rfl (hb hby d28_6) rfl ?_
  exact kt
 by_cases hc104 : (0 : Int32) < (Int32.ofNat (bN bs))
 ·skip
  have hlt : 0 < bN bs := (own_lt (i := 0) (by decide) (by omega)).mp hc104
  have hw0 := own_wsBf.mp (hB.2.2 hlt)
  have hr106 : ((Int32.ofNat (bN bs)) - (1 : Int32)) = (Int32.ofNat (bN bs - 1)) := own_subN (a := 1) hlt
  obtain ⟨_, _, ⟨T107, L107, k107, n107⟩, -, X107, ⟨Lc107, hQ107, l107, y107, z107⟩, st107⟩ := Jvm.LawKit.callS X103 hx (y := mN7) hown (mvT hZ (tw hw 107 rfl)) (mvT hZ (tw hw 108 rfl)) (mvT hZ (tw hw 24 rfl)) (mvT hZ (tw hw 109 rfl)) (by decide) (backOf (W := 0) (rmGch l Z a0 hw [] a1 bs k1 (bN bs - 1) h0 n0 O0 V1 hn (by omega)) hZ (tw hw 109 rfl) (tw hw 24 rfl) (by decide) (by decide)) (g := (mkF m 14 #[vR a1, vI (Int32.ofNat bs.length), vI (Int32.ofNat (bN bs)), s3] [(.int (Int32.ofNat (bN bs - 1))), (.ref a1)])) rfl (by rw [hml]; rfl) (argsL := [(.ref a1), (.int (Int32.ofNat (bN bs - 1)))]) (rest := []) (lenOf pd_2 rfl) rfl (wL _) (hb hby d28_14) (fun _ _ => ⟨rfl, e103, (by decide : 0 + 0 ≤ _), (by decide : 0 + 0 ≤ _)⟩)
  dsimp only [Pt.U, Pt.locs, Pt.cells, Pt.slots] at X107 l107 y107 z107 st107 hQ107
  rw [l107] at X107
  subst y107 z107
  obtain ⟨rfl, N107q, H107⟩ := hQ107
  have N107 := Fr.app N103 N107q
  obtain ⟨T108, X108, e108, st108⟩ := getS2 X107 hx hZ hown (host := "") (Or.inl (tw hw 110 rfl)) Via.refl H107 (Sta.ext O0.2 S_IN) (g := (mkF m 30 #[vR a1, vI (Int32.ofNat bs.length), vI (Int32.ofNat (bN bs)), vI ((bs.getD (bN bs - 1) 0) &&& (255 : Int32))] [])) rfl (hb hby d28_30)
  obtain ⟨cq109, kq109, q109a, q109b, q109c⟩ := isOf hZ e108 E_in
  obtain ⟨_, _, ⟨T109, L109, k109, n109⟩, -, X109, ⟨Lc109, hQ109, l109, y109, z109⟩, st109⟩ := X108.virtualBack hx (y := mN24) (z := mN24) hown (mvT hZ (tw hw 112 rfl)) (mvT hZ (tw hw 113 rfl)) (notFace_of_selects (args := #[]) (mvT hZ (tw hw 115 rfl))) (mvT hZ (tw hw 115 rfl)) (mvT hZ (tw hw 114 rfl)) (by decide) (backOf (W := 0) (rmIsw l Z a0 hw [] ((bs.getD (bN bs - 1) 0) &&& (255 : Int32)) cin ta kA h0 n0 O0 S_IN E_IN S_A V_A (own_c255b _)) hZ (tw hw 116 rfl) (tw hw 111 rfl) (by decide) (by decide)) q109a q109c (g := (mkF m 34 #[vR a1, vI (Int32.ofNat bs.length), vI (Int32.ofNat (bN bs)), vI ((bs.getD (bN bs - 1) 0) &&& (255 : Int32))] [(.int ((bs.getD (bN bs - 1) 0) &&& (255 : Int32))), (.ref cin)])) rfl (by rw [hml]; rfl) (Steps.refl _) (argsL := [(.int ((bs.getD (bN bs - 1) 0) &&& (255 : Int32)))]) (rest := []) (lenOf pd_17 rfl) rfl (wL _) (hb hby d28_34) (fun _ _ => ⟨rfl, e108, (by decide : 0 + 0 ≤ _), (by decide : 0 + 0 ≤ _)⟩)
  dsimp only [Pt.U, Pt.locs, Pt.cells, Pt.slots] at X109 l109 y109 z109 st109 hQ109
  rw [l109] at X109
  subst y109 z109
  obtain ⟨rfl, N109q, H109⟩ := hQ109
  have N109 := Fr.app N107 N109q
  obtain ⟨fs, hr, hrun, hended, hW, hsame⟩ := X109.leave (v := some (.int (Int32.ofNat (bN bs)))) (nvr Bd.returns)
  refine ⟨_, _, pre105 _ ?_, hrun, hended, _, _, rfl, ?_, ⟨_, rfl⟩, hW, hsame.mono (by decide) (by decide)⟩
  ·skip
   show SS p e below T103 m 7 #[vR a1, vI (Int32.ofNat bs.length), vI (Int32.ofNat (bN bs)), s3] [(.int (Int32.ofNat (bN bs))), (.int 0)] _
   refine XS.icmpNo X103.here hx rfl (hb hby d28_7) rfl (tlt hc104).2.1 ?_
   refine XS.aloadN X103.here hx rfl (hb hby d28_10) rfl rfl ?_
   refine XS.iloadN X103.here hx rfl (hb hby d28_11) rfl ?_
   refine XS.iconst X103.here hx rfl (hb hby d28_12) ?_
   refine XS.isub X103.here hx rfl (hb hby d28_13) rfl ?_
   show SS p e below T103 m 14 #[vR a1, vI (Int32.ofNat bs.length), vI (Int32.ofNat (bN bs)), s3] [(.int ((Int32.ofNat (bN bs)) - (1 : Int32))), (.ref a1)] _
   rw [hr106]
   show SS p e below T103 m 14 #[vR a1, vI (Int32.ofNat bs.length), vI (Int32.ofNat (bN bs)), s3] [(.int (Int32.ofNat (bN bs - 1))), (.ref a1)] _
   refine st107 _ ?_
   refine XS.istoreN X107.here hx rfl (hb hby d28_17) rfl (l' := #[vR a1, vI (Int32.ofNat bs.length), vI (Int32.ofNat (bN bs)), vI ((bs.getD (bN bs - 1) 0) &&& (255 : Int32))]) (os_rmNwB_1 hs3) ?_
   refine XS.iloadN X107.here hx rfl (hb hby d28_18) rfl ?_
   refine XS.bipush X107.here hx rfl (hb hby d28_19) ?_
   refine XS.icmpNo X107.here hx rfl (hb hby d28_21) rfl (feq (fun q => by rw [q] at hw0; exact absurd hw0 (by decide) : ¬ (((bs.getD (bN bs - 1) 0) &&& (255 : Int32)) = (32 : Int32)))).1 ?_
   refine XS.iloadN X107.here hx rfl (hb hby d28_24) rfl ?_
   refine XS.bipush X107.here hx rfl (hb hby d28_25) ?_
   refine XS.icmpNo X107.here hx rfl (hb hby d28_27) rfl (feq (fun q => by rw [q] at hw0; exact absurd hw0 (by decide) : ¬ (((bs.getD (bN bs - 1) 0) &&& (255 : Int32)) = (9 : Int32)))).1 ?_
   show SS p e below T107 m 30 #[vR a1, vI (Int32.ofNat bs.length), vI (Int32.ofNat (bN bs)), vI ((bs.getD (bN bs - 1) 0) &&& (255 : Int32))] [] _
   refine st108 _ ?_
   refine XS.iloadN X108.here hx rfl (hb hby d28_33) rfl ?_
   show SS p e below T108 m 34 #[vR a1, vI (Int32.ofNat bs.length), vI (Int32.ofNat (bN bs)), vI ((bs.getD (bN bs - 1) 0) &&& (255 : Int32))] [(.int ((bs.getD (bN bs - 1) 0) &&& (255 : Int32))), (.ref cin)] _
   refine st109.trans ?_
   refine XS.ifNo X109.here hx rfl (hb hby d28_37) rfl ((if0 _ _).trans (teq (hw0 : (wsC ((bs.getD (bN bs - 1) 0) &&& (255 : Int32))) = (0 : Int32))).2) ?_
   refine XS.goto X109.here hx rfl (pc0 := 40) (pc' := 49) rfl (hb hby d28_40) (by decide) (by decide) ?_
   refine XS.iloadN X109.here hx rfl (hb hby d28_49) rfl ?_
   show SS p e below T109 m 50 #[vR a1, vI (Int32.ofNat bs.length), vI (Int32.ofNat (bN bs)), vI ((bs.getD (bN bs - 1) 0) &&& (255 : Int32))] [(.int (Int32.ofNat (bN bs)))] _
   exact retI X109 hx Bd.returns (hb hby d28_50) hr
  ·show Q_rmNwB Z a1 bs k1 cin ta kA h0 n0 _ T109.heap _
   rw [H109]
   exact ⟨rfl, N109, rfl⟩
 ·skip
  obtain ⟨fs, hr, hrun, hended, hW, hsame⟩ := X103.leave (v := some (.int (Int32.ofNat (bN bs)))) (nvr Bd.returns)
  refine ⟨_, _, pre105 _ ?_, hrun, hended, _, _, rfl, ?_, ⟨_, rfl⟩, hW, hsame.mono (by decide) (by decide)⟩
  ·skip
   show SS p e below T103 m 7 #[vR a1, vI (Int32.ofNat bs.length), vI (Int32.ofNat (bN bs)), s3] [(.int (Int32.ofNat (bN bs))), (.int 0)] _
   refine XS.icmpYes X103.here hx rfl (pc0 := 7) (pc' := 49) rfl (hb hby d28_7) rfl (flt hc104).2.1 (by decide) (by decide) ?_
   refine XS.iloadN X103.here hx rfl (hb hby d28_49) rfl ?_
   show SS p e below T103 m 50 #[vR a1, vI (Int32.ofNat bs.length), vI (Int32.ofNat (bN bs)), s3] [(.int (Int32.ofNat (bN bs)))] _
   exact retI X103 hx Bd.returns (hb hby d28_50) hr
  ·show Q_rmNwB Z a1 bs k1 cin ta kA h0 n0 _ T103.heap _
   rw [e103]
   exact ⟨rfl, N103, rfl⟩
theorem d23_0 : DK cD27 0 (.aload_n 0) 1 := by decide +kernel
theorem d23_1 : DK cD27 1 (.invokestatic 214) 3 := by decide +kernel
theorem d23_4 : DK cD27 4 (.istore_n 1) 1 := by decide +kernel
theorem d23_5 : DK cD27 5 (.iload_n 1) 1 := by decide +kernel
theorem d23_6 : DK cD27 6 (.aload_n 0) 1 := by decide +kernel
theorem d23_7 : DK cD27 7 (.arraylength) 1 := by decide +kernel
theorem d23_8 : DK cD27 8 (.if_icmp .ne 6) 3 := by decide +kernel
theorem d23_11 : DK cD27 11 (.ldc 151) 2 := by decide +kernel
theorem d23_13 : DK cD27 13 (.areturn) 1 := by decide +kernel
theorem d23_14 : DK cD27 14 (.aload_n 0) 1 := by decide +kernel
theorem d23_15 : DK cD27 15 (.invokestatic 217) 3 := by decide +kernel
theorem d23_18 : DK cD27 18 (.istore_n 2) 1 := by decide +kernel
theorem d23_19 : DK cD27 19 (.iload_n 1) 1 := by decide +kernel
theorem d23_20 : DK cD27 20 (.ifCond .gt 9) 3 := by decide +kernel
theorem d23_23 : DK cD27 23 (.iload_n 2) 1 := by decide +kernel
theorem d23_24 : DK cD27 24 (.aload_n 0) 1 := by decide +kernel
theorem d23_25 : DK cD27 25 (.arraylength) 1 := by decide +kernel
theorem d23_26 : DK cD27 26 (.if_icmp .ge 7) 3 := by decide +kernel
theorem d23_29 : DK cD27 29 (.iconst 1) 1 := by decide +kernel
theorem d23_30 : DK cD27 30 (.goto 4) 3 := by decide +kernel
theorem d23_34 : DK cD27 34 (.istore_n 3) 1 := by decide +kernel
theorem d23_35 : DK cD27 35 (.iload_n 3) 1 := by decide +kernel
theorem d23_36 : DK cD27 36 (.ifCond .eq 14) 3 := by decide +kernel
theorem d23_39 : DK cD27 39 (.aload_n 0) 1 := by decide +kernel
theorem d23_40 : DK cD27 40 (.iload_n 1) 1 := by decide +kernel
theorem d23_41 : DK cD27 41 (.iload_n 2) 1 := by decide +kernel
theorem d23_42 : DK cD27 42 (.iload_n 1) 1 := by decide +kernel
theorem d23_43 : DK cD27 43 (.isub) 1 := by decide +kernel
theorem d23_44 : DK cD27 44 (.invokestatic 210) 3 := by decide +kernel
theorem d23_47 : DK cD27 47 (.goto 4) 3 := by decide +kernel
theorem d23_51 : DK cD27 51 (.areturn) 1 := by decide +kernel
theorem pd_20 : parseMethodDescriptor "([B)I" = some ⟨[(.array .byte)], some .int⟩ := by decide +kernel
theorem ef_rmLsS (m : MethodId) (y0 : Addr) : entryFrame m #[(.ref y0)] 4 = (mkF m 0 #[vR y0, .unset, .unset, .unset] []) := by first | (simp [entryFrame, mkF, argsToLocals, Value.category]; done) | rfl
def Q_rmLsS (Z : State) (a1 : Addr) (bs : List Int32) (k1 : ClassId) (cin ta : Addr) (kA : ClassId) (h0 : Heap) (n0 : Nat) (v : Option Value) (h : Heap) (L : List Loc) : Prop := ∃ (y t : Addr) (kb : ClassId), v = some (.ref y) ∧ Fr n0 L ∧ Keep h0 h [] ∧ Exa Z h y "java/lang/String" ∧ Fld Z h y "java/lang/String" "value" "[B" (.ref t) ∧ Fld Z h y "java/lang/String" "coder" "B" (.int 0) ∧ Arv Z h t kb .byte (Int32.ofNat (stripL bs).length) ((stripL bs).map Value.int) (.int 0)
theorem rmLsS (l : Launch) (Z : State) (a0 : Array Value) (hw : HW a0 Z) (ws : List Jvm.Cond) (a1 : Addr) (bs : List Int32) (k1 : ClassId) (cin ta : Addr) (kA : ClassId) (h0 : Heap) (n0 : Nat) (O0 : Old Z n0 h0) (V1 : Arv Z h0 a1 k1 .byte (Int32.ofNat bs.length) (bs.map Value.int) (.int 0)) (hn : bs.length ≤ 40) (S_IN : Sta Z Z.heap "java/lang/CharacterDataLatin1" "instance" "Ljava/lang/CharacterDataLatin1;" (.ref cin)) (E_IN : Exa Z Z.heap cin "java/lang/CharacterDataLatin1") (S_A : Sta Z Z.heap "java/lang/CharacterDataLatin1" "A" "[I" (.ref ta)) (V_A : Arv Z Z.heap ta kA .int (256 : Int32) (tabA.map Value.int) (.int 0)) (hS : aN bs = bs.length ∨ 0 < aN bs ∨ bN bs < bs.length) :
  MetFree l mN27 (head1 (Jvm.Cond.code mN27 jdk_43_method_39_code 4 (some (.object "java/lang/String")) :: ws) (Rm 4 6 52 120)) (fun a U => a = #[(.ref a1)] ∧ Z.Warmed39 U.vm ∧ U.heap = h0 ∧ CHv Z EL1 U.vm h0) (fun _ _ _ _ _ => True) (fun _ U o U' => ∃ v L, o = .returned v ∧ Q_rmLsS Z a1 bs k1 cin ta kA h0 n0 v U'.heap L ∧ CHr Z EL1 U.vm U.heap U'.vm U'.heap ∧ ReturnedEndW U o U' L (Rm 4 6 52 120).cells (Rm 4 6 52 120).slots) := by
 refine MetFree.of_bodySF (plainFor_of_name pn_3) hisR ?_
 intro p e s m args below meth c s₁ Bd hml0 hP hK
 obtain ⟨rfl, hZ, hh, hCH⟩ := hP
 have hx := Bd.exec
 have hby := Bd.bytes
 have hml : c.maxLocals = 4 := hml0
 have hown : s.vm.findClass "java/lang/StringLatin1" = some m.cls := findClass_of_methodNamed Bd.named
 have X0 : Stand p l e (Rm 4 6 52 120) s m #[(.ref a1)] below meth c s₁ [] 0 0 := Stand.of_body Bd
 have e0 : s₁.heap = h0 := by rw [← hh, Bd.state]; rfl
 have N0 := Fr.nil n0
 have hn0 : n0 ≤ h0.size := O0.1 ▸ O0.2.1
 have CR0 := CHr.refl hCH
 have hS0 : s.Since s.vm h0.size := (State.WarmedH.refl s).since _
 have pre0 : ∀ t, SS p e below s₁ m 0 #[vR a1, .unset, .unset, .unset] [] t → SE p e below s₁ m #[(.ref a1)] 4 t := fun t k => castTop (ef_rmLsS m a1) k
 have wStr : ∀ d ∈ Bundle.stringAtoms, d.before a0 Z = true := fun d hd => hw d ((by decide +kernel : ∀ d ∈ Bundle.stringAtoms, d ∈ tables_1) d hd)
 have hEW : EW Z a0 EL1 := EW.cons (tw hw 126 rfl) (by decide) (EW.cons (tw hw 0 rfl) (by decide) (EW.cons (tw hw 184 rfl) (by decide) EW.nil))
 have E_in := Exa.ext O0.2 E_IN
 have V_a := V_A.ext O0.2
 have hA := own_afacts bs
 have hB := own_bfacts bs
 have hA2 := hA.2.1
 have hB2 := hB.2.1
 have lt_a1 : @LT.lt Nat _ a1 h0.size := V1.lt
 obtain ⟨_, _, ⟨T101, L101, k101, n101⟩, -, X101, ⟨Lc101, hQ101, l101, y101, z101⟩, st101⟩ := Jvm.LawKit.callS X0 hx (y := mN25) hown (mvT hZ (tw hw 104 rfl)) (mvT hZ (tw hw 105 rfl)) (mvT hZ (tw hw 24 rfl)) (mvT hZ (tw hw 106 rfl)) (by decide) (backOf (W := 0) (rmNwF l Z a0 hw [] a1 bs k1 cin ta kA h0 n0 O0 V1 hn S_IN E_IN S_A V_A) hZ (tw hw 106 rfl) (tw hw 24 rfl) (by decide) (by decide)) (g := (mkF m 1 #[vR a1, .unset, .unset, .unset] [(.ref a1)])) rfl (by rw [hml]; rfl) (argsL := [(.ref a1)]) (rest := []) (lenOf pd_20 rfl) rfl (wL _) (hb hby d23_1) (fun _ _ => ⟨rfl, e0, (by decide : 0 + 0 ≤ _), (by decide : 0 + 0 ≤ _)⟩)
 dsimp only [Pt.U, Pt.locs, Pt.cells, Pt.slots] at X101 l101 y101 z101 st101 hQ101
 rw [l101] at X101
 subst y101 z101
 obtain ⟨rfl, N101q, H101⟩ := hQ101
 have N101 := Fr.app N0 N101q
 obtain ⟨cl102, Ar102, q102, S102, Nn102, H102, G102⟩ := id V1
 have pre104 : ∀ t, SS p e below T101 m 8 #[vR a1, vI (Int32.ofNat (aN bs)), .unset, .unset] [(.int (Int32.ofNat bs.length)), (.int (Int32.ofNat (aN bs)))] t → SE p e below s₁ m #[(.ref a1)] 4 t := by
  intro t kt
  refine pre0 _ ?_
  show SS p e below s₁ m 0 #[vR a1, .unset, .unset, .unset] [] _
  refine XS.aloadN X0.here hx rfl (hb hby d23_0) rfl rfl ?_
  show SS p e below s₁ m 1 #[vR a1, .unset, .unset, .unset] [(.ref a1)] _
  refine st101 _ ?_
  refine XS.istoreN X101.here hx rfl (hb hby d23_4) rfl (l' := #[vR a1, vI (Int32.ofNat (aN bs)), .unset, .unset]) rfl ?_
  refine XS.iloadN X101.here hx rfl (hb hby d23_5) rfl ?_
  refine XS.aloadN X101.here hx rfl (hb hby d23_6) rfl rfl ?_
  show SS p e below T101 m 7 #[vR a1, vI (Int32.ofNat (aN bs)), .unset, .unset] [(.ref a1), (.int (Int32.ofNat (aN bs)))] _
  refine X101.arraylength hx (by rw [H101]; exact Ar102.1) (State.isArrayOf_alike hZ.alike Ar102.2.1) (g := (mkF m 7 #[vR a1, vI (Int32.ofNat (aN bs)), .unset, .unset] [(.ref a1), (.int (Int32.ofNat (aN bs)))])) rfl rfl (hb hby d23_7) _ ?_
  rw [len_of S102 Nn102]
  exact kt
 by_cases hc103 : (Int32.ofNat (aN bs)) = (Int32.ofNat bs.length)
 ·skip
  obtain ⟨b105, T105, h105, k105, t105, kb105, X105, e105, E105, hS105, hk105, hZ105, hown105, Ea105, Fc105, Fv105, Av105, la105, lb105, CR105, Li105, nq105, st105⟩ := ldcCH (s := s) (vm0 := s.vm) X101 hx hZ hown (tw hw 184 rfl) wStr H101 hS0 (by omega) hEW (by simp [EL1]) CR0.1 (vs := (([] : List Int32).map Value.int)) (z := (Int32.ofNat ([] : List Int32).length)) ⟨by decide, by decide⟩ (by decide) (by decide) (g := (mkF m 11 #[vR a1, vI (Int32.ofNat (aN bs)), .unset, .unset] [])) rfl (hb hby d23_11) (n := 0) (by decide) (by decide) (by decide) (by decide)
  have lta105 : @LT.lt Nat _ b105 h105.size := la105
  have ltb105 : @LT.lt Nat _ t105 h105.size := lb105
  have K105 : Keep h0 h105 [] := (Keep.refl _ _).ext E105
  have cR1_K105 := CR0.trans CR105
  have sz1_K105 := K105.1
  have ee : stripL bs = [] := by rw [own_stripeq, (own_eqn (by omega) (by omega)).mp hc103, List.drop_length]; simp
  have KC106 : Keep h0 h105 [] := (Keep.refl h0 []).trans K105 (all0)
  obtain ⟨fs, hr, hrun, hended, eR, eW, eI, eS⟩ := Stand.leaveW (s := s) (vm₁ := T105.vm) X105 hS105 (by rw [e105]; omega) (v := some (.ref b105)) (nvr Bd.returns)
  refine ⟨_, _, pre104 _ ?_, hrun, hended, _, _, rfl, ?_, ?_, eR, eW, eI, eS.mono (by decide) (by decide)⟩
  ·skip
   show SS p e below T101 m 8 #[vR a1, vI (Int32.ofNat (aN bs)), .unset, .unset] [(.int (Int32.ofNat bs.length)), (.int (Int32.ofNat (aN bs)))] _
   refine XS.icmpNo X101.here hx rfl (hb hby d23_8) rfl (teq hc103).2 ?_
   show SS p e below T101 m 11 #[vR a1, vI (Int32.ofNat (aN bs)), .unset, .unset] [] _
   refine st105 _ ?_
   show SS p e below T105 m 13 #[vR a1, vI (Int32.ofNat (aN bs)), .unset, .unset] [(.ref b105)] _
   exact X105.areturnOut hx rfl Bd.returns rfl (hb hby d23_13) hr
  ·show Q_rmLsS Z a1 bs k1 cin ta kA h0 n0 _ T105.heap _
   rw [e105]
   exact ⟨_, _, _, rfl, N101, KC106, Ea105, Fv105, Fc105, (by rw [ee]; exact Av105)⟩
  ·show CHr Z EL1 s.vm s.heap T105.vm T105.heap
   rw [hh, e105]
   exact cR1_K105.trans (CHv.at (s := s) (vm0 := T105.vm) X105 hZ105 hEW cR1_K105.1)
 ·skip
  have hal : aN bs < bs.length := by
   rcases Nat.lt_or_ge (aN bs) bs.length with q | q
   ·exact q
   ·exact absurd (congrArg Int32.ofNat (Nat.le_antisymm hA2 q)) hc103
  have hab := own_ab bs hal
  obtain ⟨_, _, ⟨T107, L107, k107, n107⟩, -, X107, ⟨Lc107, hQ107, l107, y107, z107⟩, st107⟩ := Jvm.LawKit.callS X101 hx (y := mN26) hown (mvT hZ (tw hw 123 rfl)) (mvT hZ (tw hw 124 rfl)) (mvT hZ (tw hw 24 rfl)) (mvT hZ (tw hw 125 rfl)) (by decide) (backOf (W := 0) (rmNwB l Z a0 hw [] a1 bs k1 cin ta kA h0 n0 O0 V1 hn S_IN E_IN S_A V_A) hZ (tw hw 125 rfl) (tw hw 24 rfl) (by decide) (by decide)) (g := (mkF m 15 #[vR a1, vI (Int32.ofNat (aN bs)), .unset, .unset] [(.ref a1)])) rfl (by rw [hml]; rfl) (argsL := [(.ref a1)]) (rest := []) (lenOf pd_20 rfl) rfl (wL _) (hb hby d23_15) (fun _ _ => ⟨rfl, H101, (by decide : 0 + 0 ≤ _), (by decide : 0 + 0 ≤ _)⟩)
  dsimp only [Pt.U, Pt.locs, Pt.cells, Pt.slots] at X107 l107 y107 z107 st107 hQ107
  rw [l107] at X107
  subst y107 z107
  obtain ⟨rfl, N107q, H107⟩ := hQ107
  have N107 := Fr.app N101 N107q
  have pre109 : ∀ t, SS p e below T107 m 20 #[vR a1, vI (Int32.ofNat (aN bs)), vI (Int32.ofNat (bN bs)), .unset] [(.int (Int32.ofNat (aN bs)))] t → SE p e below s₁ m #[(.ref a1)] 4 t := by
   intro t kt
   refine pre104 _ ?_
   show SS p e below T101 m 8 #[vR a1, vI (Int32.ofNat (aN bs)), .unset, .unset] [(.int (Int32.ofNat bs.length)), (.int (Int32.ofNat (aN bs)))] _
   refine XS.icmpYes X101.here hx rfl (pc0 := 8) (pc' := 14) rfl (hb hby d23_8) rfl (feq hc103).2 (by decide) (by decide) ?_
   refine XS.aloadN X101.here hx rfl (hb hby d23_14) rfl rfl ?_
   show SS p e below T101 m 15 #[vR a1, vI (Int32.ofNat (aN bs)), .unset, .unset] [(.ref a1)] _
   refine st107 _ ?_
   refine XS.istoreN X107.here hx rfl (hb hby d23_18) rfl (l' := #[vR a1, vI (Int32.ofNat (aN bs)), vI (Int32.ofNat (bN bs)), .unset]) rfl ?_
   refine XS.iloadN X107.here hx rfl (hb hby d23_19) rfl ?_
   exact kt
  by_cases hc108 : (0 : Int32) < (Int32.ofNat (aN bs))
  ·skip
   have hr110 : ((Int32.ofNat (bN bs)) - (Int32.ofNat (aN bs))) = (Int32.ofNat (bN bs - aN bs)) := own_subN (by omega)
   obtain ⟨_, _, ⟨T111, L111, k111, n111⟩, -, X111q, hSq111, hgr111, ⟨Lc111, hQ111, l111, y111, z111, cr111⟩, st111⟩ := callSS X107 hx (y := mN21) hown (mvT hZ (tw hw 150 rfl)) (mvT hZ (tw hw 151 rfl)) (mvT hZ (tw hw 24 rfl)) (mvT hZ (tw hw 152 rfl)) (by decide) (backOfSH (s := s) (vm0 := s.vm) (EL := EL1) (W := 0) (rmNs l Z a0 hw [] a1 (aN bs) (bN bs - aN bs) k1 bs h0 n0 O0 V1 (by omega) hn (Or.inl ((own_lt (i := 0) (by decide) (by omega)).mp hc108))) hZ (tw hw 152 rfl) (tw hw 24 rfl) (by decide) (by decide) hEW CR0.1) (g := (mkF m 44 #[vR a1, vI (Int32.ofNat (aN bs)), vI (Int32.ofNat (bN bs)), vI 1] [(.int (Int32.ofNat (bN bs - aN bs))), (.int (Int32.ofNat (aN bs))), (.ref a1)])) rfl (by rw [hml]; rfl) (argsL := [(.ref a1), (.int (Int32.ofNat (aN bs))), (.int (Int32.ofNat (bN bs - aN bs)))]) (rest := []) (lenOf pd_26 rfl) rfl (wL _) (hb hby d23_44) (fun _ _ => ⟨rfl, H107, (by decide : 0 + 4 ≤ _), (by decide : 0 + 48 ≤ _)⟩)
   dsimp only [Pt.U, Pt.locs, Pt.cells, Pt.slots] at X111q l111 y111 z111 st111 hQ111 hSq111 hgr111 cr111
   rw [l111] at X111q
   subst y111 z111
   obtain ⟨X111, hS111, hZ111, hown111⟩ := rebS (s := s) (vm0 := s.vm) hS0 (by rw [H107]; omega) X111q hSq111 hgr111 hZ hown
   obtain ⟨y111, t111, kb111, rfl, N111q, K111, Es111, Sv111, Sc111, Vs111⟩ := hQ111
   have lty111 : @LT.lt Nat _ y111 T111.heap.size := Es111.lt
   have ltt111 : @LT.lt Nat _ t111 T111.heap.size := Vs111.lt
   have cR1_K111 := CR0.trans cr111
   have sz1_K111 := K111.1
   have N111 := Fr.app N107 N111q
   have KC112 : Keep h0 T111.heap [] := (Keep.refl h0 []).trans K111 (all0)
   obtain ⟨fs, hr, hrun, hended, eR, eW, eI, eS⟩ := Stand.leaveW (s := s) (vm₁ := T111.vm) X111 hS111 (by omega) (v := some (.ref y111)) (nvr Bd.returns)
   refine ⟨_, _, pre109 _ ?_, hrun, hended, _, _, rfl, ?_, ?_, eR, eW, eI, eS.mono (by decide) (by decide)⟩
   ·skip
    show SS p e below T107 m 20 #[vR a1, vI (Int32.ofNat (aN bs)), vI (Int32.ofNat (bN bs)), .unset] [(.int (Int32.ofNat (aN bs)))] _
    refine XS.ifYes X107.here hx rfl (pc0 := 20) (pc' := 29) rfl (hb hby d23_20) rfl ((if0 _ _).trans (tlt hc108).2.2.1) (by decide) (by decide) ?_
    refine XS.iconst X107.here hx rfl (hb hby d23_29) ?_
    refine XS.goto X107.here hx rfl (pc0 := 30) (pc' := 34) rfl (hb hby d23_30) (by decide) (by decide) ?_
    refine XS.istoreN X107.here hx rfl (hb hby d23_34) rfl (l' := #[vR a1, vI (Int32.ofNat (aN bs)), vI (Int32.ofNat (bN bs)), vI 1]) rfl ?_
    refine XS.iloadN X107.here hx rfl (hb hby d23_35) rfl ?_
    refine XS.ifNo X107.here hx rfl (hb hby d23_36) rfl ((if0 _ _).trans (feq (by decide : ¬ ((1 : Int32) = (0 : Int32)))).1) ?_
    refine XS.aloadN X107.here hx rfl (hb hby d23_39) rfl rfl ?_
    refine XS.iloadN X107.here hx rfl (hb hby d23_40) rfl ?_
    refine XS.iloadN X107.here hx rfl (hb hby d23_41) rfl ?_
    refine XS.iloadN X107.here hx rfl (hb hby d23_42) rfl ?_
    refine XS.isub X107.here hx rfl (hb hby d23_43) rfl ?_
    show SS p e below T107 m 44 #[vR a1, vI (Int32.ofNat (aN bs)), vI (Int32.ofNat (bN bs)), vI 1] [(.int ((Int32.ofNat (bN bs)) - (Int32.ofNat (aN bs)))), (.int (Int32.ofNat (aN bs))), (.ref a1)] _
    rw [hr110]
    show SS p e below T107 m 44 #[vR a1, vI (Int32.ofNat (aN bs)), vI (Int32.ofNat (bN bs)), vI 1] [(.int (Int32.ofNat (bN bs - aN bs))), (.int (Int32.ofNat (aN bs))), (.ref a1)] _
    refine st111.trans ?_
    refine XS.goto X111.here hx rfl (pc0 := 47) (pc' := 51) rfl (hb hby d23_47) (by decide) (by decide) ?_
    show SS p e below T111 m 51 #[vR a1, vI (Int32.ofNat (aN bs)), vI (Int32.ofNat (bN bs)), vI 1] [(.ref y111)] _
    exact X111.areturnOut hx rfl Bd.returns rfl (hb hby d23_51) hr
   ·show Q_rmLsS Z a1 bs k1 cin ta kA h0 n0 _ T111.heap _
    exact ⟨_, _, _, rfl, N111, KC112, Es111, Sv111, Sc111, (by rw [own_stripeq]; exact Vs111)⟩
   ·show CHr Z EL1 s.vm s.heap T111.vm T111.heap
    rw [hh]
    exact cR1_K111.trans (CHv.at (s := s) (vm0 := T111.vm) X111 hZ111 hEW cR1_K111.1)
  ·skip
   obtain ⟨cl113, Ar113, q113, S113, Nn113, H113, G113⟩ := id V1
   have hr114 : ((Int32.ofNat (bN bs)) - (Int32.ofNat (aN bs))) = (Int32.ofNat (bN bs - aN bs)) := own_subN (by omega)
   obtain ⟨_, _, ⟨T115, L115, k115, n115⟩, -, X115q, hSq115, hgr115, ⟨Lc115, hQ115, l115, y115, z115, cr115⟩, st115⟩ := callSS X107 hx (y := mN21) hown (mvT hZ (tw hw 150 rfl)) (mvT hZ (tw hw 151 rfl)) (mvT hZ (tw hw 24 rfl)) (mvT hZ (tw hw 152 rfl)) (by decide) (backOfSH (s := s) (vm0 := s.vm) (EL := EL1) (W := 0) (rmNs l Z a0 hw [] a1 (aN bs) (bN bs - aN bs) k1 bs h0 n0 O0 V1 (by omega) hn (Or.inr (by have := (own_lt (by omega) (by omega)).mp ((own_lt (by omega) (by omega)).mpr (hS.elim (fun q => absurd q (Nat.ne_of_lt hal)) (fun z => z.resolve_left (fun q => hc108 ((own_lt (i := 0) (by decide) (by omega)).mpr q))))); omega))) hZ (tw hw 152 rfl) (tw hw 24 rfl) (by decide) (by decide) hEW CR0.1) (g := (mkF m 44 #[vR a1, vI (Int32.ofNat (aN bs)), vI (Int32.ofNat (bN bs)), vI 1] [(.int (Int32.ofNat (bN bs - aN bs))), (.int (Int32.ofNat (aN bs))), (.ref a1)])) rfl (by rw [hml]; rfl) (argsL := [(.ref a1), (.int (Int32.ofNat (aN bs))), (.int (Int32.ofNat (bN bs - aN bs)))]) (rest := []) (lenOf pd_26 rfl) rfl (wL _) (hb hby d23_44) (fun _ _ => ⟨rfl, H107, (by decide : 0 + 4 ≤ _), (by decide : 0 + 48 ≤ _)⟩)
   dsimp only [Pt.U, Pt.locs, Pt.cells, Pt.slots] at X115q l115 y115 z115 st115 hQ115 hSq115 hgr115 cr115
   rw [l115] at X115q
   subst y115 z115
   obtain ⟨X115, hS115, hZ115, hown115⟩ := rebS (s := s) (vm0 := s.vm) hS0 (by rw [H107]; omega) X115q hSq115 hgr115 hZ hown
   obtain ⟨y115, t115, kb115, rfl, N115q, K115, Es115, Sv115, Sc115, Vs115⟩ := hQ115
   have lty115 : @LT.lt Nat _ y115 T115.heap.size := Es115.lt
   have ltt115 : @LT.lt Nat _ t115 T115.heap.size := Vs115.lt
   have cR1_K115 := CR0.trans cr115
   have sz1_K115 := K115.1
   have N115 := Fr.app N107 N115q
   have KC116 : Keep h0 T115.heap [] := (Keep.refl h0 []).trans K115 (all0)
   obtain ⟨fs, hr, hrun, hended, eR, eW, eI, eS⟩ := Stand.leaveW (s := s) (vm₁ := T115.vm) X115 hS115 (by omega) (v := some (.ref y115)) (nvr Bd.returns)
   refine ⟨_, _, pre109 _ ?_, hrun, hended, _, _, rfl, ?_, ?_, eR, eW, eI, eS.mono (by decide) (by decide)⟩
   ·skip
    show SS p e below T107 m 20 #[vR a1, vI (Int32.ofNat (aN bs)), vI (Int32.ofNat (bN bs)), .unset] [(.int (Int32.ofNat (aN bs)))] _
    refine XS.ifNo X107.here hx rfl (hb hby d23_20) rfl ((if0 _ _).trans (flt hc108).2.2.1) ?_
    refine XS.iloadN X107.here hx rfl (hb hby d23_23) rfl ?_
    refine XS.aloadN X107.here hx rfl (hb hby d23_24) rfl rfl ?_
    show SS p e below T107 m 25 #[vR a1, vI (Int32.ofNat (aN bs)), vI (Int32.ofNat (bN bs)), .unset] [(.ref a1), (.int (Int32.ofNat (bN bs)))] _
    refine X107.arraylength hx (by rw [H107]; exact Ar113.1) (State.isArrayOf_alike hZ.alike Ar113.2.1) (g := (mkF m 25 #[vR a1, vI (Int32.ofNat (aN bs)), vI (Int32.ofNat (bN bs)), .unset] [(.ref a1), (.int (Int32.ofNat (bN bs)))])) rfl rfl (hb hby d23_25) _ ?_
    rw [len_of S113 Nn113]
    refine XS.icmpNo X107.here hx rfl (hb hby d23_26) rfl (tlt (((own_lt (by omega) (by omega)).mpr (hS.elim (fun q => absurd q (Nat.ne_of_lt hal)) (fun z => z.resolve_left (fun q => hc108 ((own_lt (i := 0) (by decide) (by omega)).mpr q))))) : (Int32.ofNat (bN bs)) < (Int32.ofNat bs.length))).2.1 ?_
    refine XS.iconst X107.here hx rfl (hb hby d23_29) ?_
    refine XS.goto X107.here hx rfl (pc0 := 30) (pc' := 34) rfl (hb hby d23_30) (by decide) (by decide) ?_
    refine XS.istoreN X107.here hx rfl (hb hby d23_34) rfl (l' := #[vR a1, vI (Int32.ofNat (aN bs)), vI (Int32.ofNat (bN bs)), vI 1]) rfl ?_
    refine XS.iloadN X107.here hx rfl (hb hby d23_35) rfl ?_
    refine XS.ifNo X107.here hx rfl (hb hby d23_36) rfl ((if0 _ _).trans (feq (by decide : ¬ ((1 : Int32) = (0 : Int32)))).1) ?_
    refine XS.aloadN X107.here hx rfl (hb hby d23_39) rfl rfl ?_
    refine XS.iloadN X107.here hx rfl (hb hby d23_40) rfl ?_
    refine XS.iloadN X107.here hx rfl (hb hby d23_41) rfl ?_
    refine XS.iloadN X107.here hx rfl (hb hby d23_42) rfl ?_
    refine XS.isub X107.here hx rfl (hb hby d23_43) rfl ?_
    show SS p e below T107 m 44 #[vR a1, vI (Int32.ofNat (aN bs)), vI (Int32.ofNat (bN bs)), vI 1] [(.int ((Int32.ofNat (bN bs)) - (Int32.ofNat (aN bs)))), (.int (Int32.ofNat (aN bs))), (.ref a1)] _
    rw [hr114]
    show SS p e below T107 m 44 #[vR a1, vI (Int32.ofNat (aN bs)), vI (Int32.ofNat (bN bs)), vI 1] [(.int (Int32.ofNat (bN bs - aN bs))), (.int (Int32.ofNat (aN bs))), (.ref a1)] _
    refine st115.trans ?_
    refine XS.goto X115.here hx rfl (pc0 := 47) (pc' := 51) rfl (hb hby d23_47) (by decide) (by decide) ?_
    show SS p e below T115 m 51 #[vR a1, vI (Int32.ofNat (aN bs)), vI (Int32.ofNat (bN bs)), vI 1] [(.ref y115)] _
    exact X115.areturnOut hx rfl Bd.returns rfl (hb hby d23_51) hr
   ·show Q_rmLsS Z a1 bs k1 cin ta kA h0 n0 _ T115.heap _
    exact ⟨_, _, _, rfl, N115, KC116, Es115, Sv115, Sc115, (by rw [own_stripeq]; exact Vs115)⟩
   ·show CHr Z EL1 s.vm s.heap T115.vm T115.heap
    rw [hh]
    exact cR1_K115.trans (CHv.at (s := s) (vm0 := T115.vm) X115 hZ115 hEW cR1_K115.1)
theorem d23_33 : DK cD27 33 (.iconst 0) 1 := by decide +kernel
theorem d23_50 : DK cD27 50 (.aconst_null) 1 := by decide +kernel
theorem ef_rmLsN (m : MethodId) (y0 : Addr) : entryFrame m #[(.ref y0)] 4 = (mkF m 0 #[vR y0, .unset, .unset, .unset] []) := by first | (simp [entryFrame, mkF, argsToLocals, Value.category]; done) | rfl
def Q_rmLsN (Z : State) (a1 : Addr) (bs : List Int32) (k1 : ClassId) (cin ta : Addr) (kA : ClassId) (h0 : Heap) (n0 : Nat) (v : Option Value) (h : Heap) (L : List Loc) : Prop := v = some .null ∧ Fr n0 L ∧ h = h0
theorem rmLsN (l : Launch) (Z : State) (a0 : Array Value) (hw : HW a0 Z) (ws : List Jvm.Cond) (a1 : Addr) (bs : List Int32) (k1 : ClassId) (cin ta : Addr) (kA : ClassId) (h0 : Heap) (n0 : Nat) (O0 : Old Z n0 h0) (V1 : Arv Z h0 a1 k1 .byte (Int32.ofNat bs.length) (bs.map Value.int) (.int 0)) (hn : bs.length ≤ 40) (S_IN : Sta Z Z.heap "java/lang/CharacterDataLatin1" "instance" "Ljava/lang/CharacterDataLatin1;" (.ref cin)) (E_IN : Exa Z Z.heap cin "java/lang/CharacterDataLatin1") (S_A : Sta Z Z.heap "java/lang/CharacterDataLatin1" "A" "[I" (.ref ta)) (V_A : Arv Z Z.heap ta kA .int (256 : Int32) (tabA.map Value.int) (.int 0)) (hS : aN bs = 0 ∧ bN bs = bs.length ∧ 0 < bs.length) :
  MF l mN27 jdk_43_method_39_code 4 (some (.object "java/lang/String")) ws (Rm 3 0 0 70) Z #[(.ref a1)] h0 (Q_rmLsN Z a1 bs k1 cin ta kA h0 n0) := by
 refine MetFree.of_bodySF (plainFor_of_name pn_3) hisR ?_
 intro p e s m args below meth c s₁ Bd hml0 hP hK
 obtain ⟨rfl, hZ, hh⟩ := hP
 have hx := Bd.exec
 have hby := Bd.bytes
 have hml : c.maxLocals = 4 := hml0
 have hown : s.vm.findClass "java/lang/StringLatin1" = some m.cls := findClass_of_methodNamed Bd.named
 have X0 : Stand p l e (Rm 3 0 0 70) s m #[(.ref a1)] below meth c s₁ [] 0 0 := Stand.of_body Bd
 have e0 : s₁.heap = h0 := by rw [← hh, Bd.state]; rfl
 have N0 := Fr.nil n0
 have hn0 : n0 ≤ h0.size := O0.1 ▸ O0.2.1
 have pre0 : ∀ t, SS p e below s₁ m 0 #[vR a1, .unset, .unset, .unset] [] t → SE p e below s₁ m #[(.ref a1)] 4 t := fun t k => castTop (ef_rmLsN m a1) k
 have E_in := Exa.ext O0.2 E_IN
 have V_a := V_A.ext O0.2
 have hA := own_afacts bs
 have hB := own_bfacts bs
 have hA2 := hA.2.1
 have hB2 := hB.2.1
 have lt_a1 : @LT.lt Nat _ a1 h0.size := V1.lt
 obtain ⟨_, _, ⟨T101, L101, k101, n101⟩, -, X101, ⟨Lc101, hQ101, l101, y101, z101⟩, st101⟩ := Jvm.LawKit.callS X0 hx (y := mN25) hown (mvT hZ (tw hw 104 rfl)) (mvT hZ (tw hw 105 rfl)) (mvT hZ (tw hw 24 rfl)) (mvT hZ (tw hw 106 rfl)) (by decide) (backOf (W := 0) (rmNwF l Z a0 hw [] a1 bs k1 cin ta kA h0 n0 O0 V1 hn S_IN E_IN S_A V_A) hZ (tw hw 106 rfl) (tw hw 24 rfl) (by decide) (by decide)) (g := (mkF m 1 #[vR a1, .unset, .unset, .unset] [(.ref a1)])) rfl (by rw [hml]; rfl) (argsL := [(.ref a1)]) (rest := []) (lenOf pd_20 rfl) rfl (wL _) (hb hby d23_1) (fun _ _ => ⟨rfl, e0, (by decide : 0 + 0 ≤ _), (by decide : 0 + 0 ≤ _)⟩)
 dsimp only [Pt.U, Pt.locs, Pt.cells, Pt.slots] at X101 l101 y101 z101 st101 hQ101
 rw [l101] at X101
 subst y101 z101
 obtain ⟨rfl, N101q, H101⟩ := hQ101
 have N101 := Fr.app N0 N101q
 obtain ⟨cl102, Ar102, q102, S102, Nn102, H102, G102⟩ := id V1
 obtain ⟨_, _, ⟨T103, L103, k103, n103⟩, -, X103, ⟨Lc103, hQ103, l103, y103, z103⟩, st103⟩ := Jvm.LawKit.callS X101 hx (y := mN26) hown (mvT hZ (tw hw 123 rfl)) (mvT hZ (tw hw 124 rfl)) (mvT hZ (tw hw 24 rfl)) (mvT hZ (tw hw 125 rfl)) (by decide) (backOf (W := 0) (rmNwB l Z a0 hw [] a1 bs k1 cin ta kA h0 n0 O0 V1 hn S_IN E_IN S_A V_A) hZ (tw hw 125 rfl) (tw hw 24 rfl) (by decide) (by decide)) (g := (mkF m 15 #[vR a1, vI (Int32.ofNat (aN bs)), .unset, .unset] [(.ref a1)])) rfl (by rw [hml]; rfl) (argsL := [(.ref a1)]) (rest := []) (lenOf pd_20 rfl) rfl (wL _) (hb hby d23_15) (fun _ _ => ⟨rfl, H101, (by decide : 0 + 0 ≤ _), (by decide : 0 + 0 ≤ _)⟩)
 dsimp only [Pt.U, Pt.locs, Pt.cells, Pt.slots] at X103 l103 y103 z103 st103 hQ103
 rw [l103] at X103
 subst y103 z103
 obtain ⟨rfl, N103q, H103⟩ := hQ103
 have N103 := Fr.app N101 N103q
 obtain ⟨cl104, Ar104, q104, S104, Nn104, H104, G104⟩ := id V1
 obtain ⟨fs, hr, hrun, hended, hW, hsame⟩ := X103.leave (v := some .null) (nvr Bd.returns)
 refine ⟨_, _, pre0 _ ?_, hrun, hended, _, _, rfl, ?_, ⟨_, rfl⟩, hW, hsame.mono (by decide) (by decide)⟩
 ·skip
  show SS p e below s₁ m 0 #[vR a1, .unset, .unset, .unset] [] _
  refine XS.aloadN X0.here hx rfl (hb hby d23_0) rfl rfl ?_
  show SS p e below s₁ m 1 #[vR a1, .unset, .unset, .unset] [(.ref a1)] _
  refine st101 _ ?_
  refine XS.istoreN X101.here hx rfl (hb hby d23_4) rfl (l' := #[vR a1, vI (Int32.ofNat (aN bs)), .unset, .unset]) rfl ?_
  refine XS.iloadN X101.here hx rfl (hb hby d23_5) rfl ?_
  refine XS.aloadN X101.here hx rfl (hb hby d23_6) rfl rfl ?_
  show SS p e below T101 m 7 #[vR a1, vI (Int32.ofNat (aN bs)), .unset, .unset] [(.ref a1), (.int (Int32.ofNat (aN bs)))] _
  refine X101.arraylength hx (by rw [H101]; exact Ar102.1) (State.isArrayOf_alike hZ.alike Ar102.2.1) (g := (mkF m 7 #[vR a1, vI (Int32.ofNat (aN bs)), .unset, .unset] [(.ref a1), (.int (Int32.ofNat (aN bs)))])) rfl rfl (hb hby d23_7) _ ?_
  rw [len_of S102 Nn102]
  refine XS.icmpYes X101.here hx rfl (pc0 := 8) (pc' := 14) rfl (hb hby d23_8) rfl (feq (fun q => by have := (own_eqn (by omega) (by omega)).mp q; omega : ¬ ((Int32.ofNat (aN bs)) = (Int32.ofNat bs.length)))).2 (by decide) (by decide) ?_
  refine XS.aloadN X101.here hx rfl (hb hby d23_14) rfl rfl ?_
  show SS p e below T101 m 15 #[vR a1, vI (Int32.ofNat (aN bs)), .unset, .unset] [(.ref a1)] _
  refine st103 _ ?_
  refine XS.istoreN X103.here hx rfl (hb hby d23_18) rfl (l' := #[vR a1, vI (Int32.ofNat (aN bs)), vI (Int32.ofNat (bN bs)), .unset]) rfl ?_
  refine XS.iloadN X103.here hx rfl (hb hby d23_19) rfl ?_
  refine XS.ifNo X103.here hx rfl (hb hby d23_20) rfl ((if0 _ _).trans (flt (fun q => by have := (own_lt (i := 0) (by decide) (by omega)).mp q; omega : ¬ ((0 : Int32) < (Int32.ofNat (aN bs))))).2.2.1) ?_
  refine XS.iloadN X103.here hx rfl (hb hby d23_23) rfl ?_
  refine XS.aloadN X103.here hx rfl (hb hby d23_24) rfl rfl ?_
  show SS p e below T103 m 25 #[vR a1, vI (Int32.ofNat (aN bs)), vI (Int32.ofNat (bN bs)), .unset] [(.ref a1), (.int (Int32.ofNat (bN bs)))] _
  refine X103.arraylength hx (by rw [H103]; exact Ar104.1) (State.isArrayOf_alike hZ.alike Ar104.2.1) (g := (mkF m 25 #[vR a1, vI (Int32.ofNat (aN bs)), vI (Int32.ofNat (bN bs)), .unset] [(.ref a1), (.int (Int32.ofNat (bN bs)))])) rfl rfl (hb hby d23_25) _ ?_
  rw [len_of S104 Nn104]
  refine XS.icmpYes X103.here hx rfl (pc0 := 26) (pc' := 33) rfl (hb hby d23_26) rfl (flt (fun q => by have := (own_lt (by omega) (by omega)).mp q; omega : ¬ ((Int32.ofNat (bN bs)) < (Int32.ofNat bs.length)))).2.1 (by decide) (by decide) ?_
  refine XS.iconst X103.here hx rfl (hb hby d23_33) ?_
  refine XS.istoreN X103.here hx rfl (hb hby d23_34) rfl (l' := #[vR a1, vI (Int32.ofNat (aN bs)), vI (Int32.ofNat (bN bs)), vI 0]) rfl ?_
  refine XS.iloadN X103.here hx rfl (hb hby d23_35) rfl ?_
  refine XS.ifYes X103.here hx rfl (pc0 := 36) (pc' := 50) rfl (hb hby d23_36) rfl ((if0 _ _).trans (teq (by decide : (0 : Int32) = (0 : Int32))).1) (by decide) (by decide) ?_
  refine XS.aconstNull X103.here hx rfl (hb hby d23_50) ?_
  show SS p e below T103 m 51 #[vR a1, vI (Int32.ofNat (aN bs)), vI (Int32.ofNat (bN bs)), vI 0] [.null] _
  exact X103.areturnOut hx rfl Bd.returns rfl (hb hby d23_51) hr
 ·show Q_rmLsN Z a1 bs k1 cin ta kA h0 n0 _ T103.heap _
  rw [H103]
  exact ⟨rfl, N103, rfl⟩
theorem d22_0 : DK cD28 0 (.aload_n 0) 1 := by decide +kernel
theorem d22_1 : DK cD28 1 (.invokevirtual 492) 3 := by decide +kernel
theorem d22_4 : DK cD28 4 (.ifCond .eq 13) 3 := by decide +kernel
theorem d22_7 : DK cD28 7 (.aload_n 0) 1 := by decide +kernel
theorem d22_8 : DK cD28 8 (.getfield 9) 3 := by decide +kernel
theorem d22_11 : DK cD28 11 (.invokestatic 864) 3 := by decide +kernel
theorem d22_14 : DK cD28 14 (.goto 10) 3 := by decide +kernel
theorem d22_24 : DK cD28 24 (.astore_n 1) 1 := by decide +kernel
theorem d22_25 : DK cD28 25 (.aload_n 1) 1 := by decide +kernel
theorem d22_26 : DK cD28 26 (.ifnonnull 7) 3 := by decide +kernel
theorem d22_33 : DK cD28 33 (.aload_n 1) 1 := by decide +kernel
theorem d22_34 : DK cD28 34 (.areturn) 1 := by decide +kernel
theorem pd_19 : parseMethodDescriptor "([B)Ljava/lang/String;" = some ⟨[(.array .byte)], some (.object "java/lang/String")⟩ := by decide +kernel
theorem ef_rmStS (m : MethodId) (y0 : Addr) : entryFrame m #[(.ref y0)] 2 = (mkF m 0 #[vR y0, .unset] []) := by first | (simp [entryFrame, mkF, argsToLocals, Value.category]; done) | rfl
def Q_rmStS (Z : State) (a1 : Addr) (bs : List Int32) (cs0 : Int32) (t1 : Addr) (k1 : ClassId) (cin ta : Addr) (kA : ClassId) (h0 : Heap) (n0 : Nat) (v : Option Value) (h : Heap) (L : List Loc) : Prop := ∃ (y t : Addr) (kb : ClassId), v = some (.ref y) ∧ Fr n0 L ∧ Keep h0 h [] ∧ Exa Z h y "java/lang/String" ∧ Fld Z h y "java/lang/String" "value" "[B" (.ref t) ∧ Fld Z h y "java/lang/String" "coder" "B" (.int 0) ∧ Arv Z h t kb .byte (Int32.ofNat (stripL bs).length) ((stripL bs).map Value.int) (.int 0)
theorem rmStS (l : Launch) (Z : State) (a0 : Array Value) (hw : HW a0 Z) (ws : List Jvm.Cond) (a1 : Addr) (bs : List Int32) (cs0 : Int32) (t1 : Addr) (k1 : ClassId) (cin ta : Addr) (kA : ClassId) (h0 : Heap) (n0 : Nat) (O0 : Old Z n0 h0) (S_CS : SCS Z cs0) (c_CS : ¬ (cs0 = (0 : Int32))) (Es : Exa Z h0 a1 "java/lang/String") (Sv : Fld Z h0 a1 "java/lang/String" "value" "[B" (.ref t1)) (Sc : Fld Z h0 a1 "java/lang/String" "coder" "B" (.int 0)) (Vs : Arv Z h0 t1 k1 .byte (Int32.ofNat bs.length) (bs.map Value.int) (.int 0)) (hn : bs.length ≤ 40) (S_IN : Sta Z Z.heap "java/lang/CharacterDataLatin1" "instance" "Ljava/lang/CharacterDataLatin1;" (.ref cin)) (E_IN : Exa Z Z.heap cin "java/lang/CharacterDataLatin1") (S_A : Sta Z Z.heap "java/lang/CharacterDataLatin1" "A" "[I" (.ref ta)) (V_A : Arv Z Z.heap ta kA .int (256 : Int32) (tabA.map Value.int) (.int 0)) (hS : aN bs = bs.length ∨ 0 < aN bs ∨ bN bs < bs.length) :
  MetFree l mN28 (head1 (Jvm.Cond.code mN28 jdk_42_method_114_code 2 (some (.object "java/lang/String")) :: ws) (Rm 5 6 52 150)) (fun a U => a = #[(.ref a1)] ∧ Z.Warmed39 U.vm ∧ U.heap = h0 ∧ CHv Z EL1 U.vm h0) (fun _ _ _ _ _ => True) (fun _ U o U' => ∃ v L, o = .returned v ∧ Q_rmStS Z a1 bs cs0 t1 k1 cin ta kA h0 n0 v U'.heap L ∧ CHr Z EL1 U.vm U.heap U'.vm U'.heap ∧ ReturnedEndW U o U' L (Rm 5 6 52 150).cells (Rm 5 6 52 150).slots) := by
 refine MetFree.of_bodySF (plainFor_of_name pn_1) hisR ?_
 intro p e s m args below meth c s₁ Bd hml0 hP hK
 obtain ⟨rfl, hZ, hh, hCH⟩ := hP
 have hx := Bd.exec
 have hby := Bd.bytes
 have hml : c.maxLocals = 2 := hml0
 have hown : s.vm.findClass "java/lang/String" = some m.cls := findClass_of_methodNamed Bd.named
 have X0 : Stand p l e (Rm 5 6 52 150) s m #[(.ref a1)] below meth c s₁ [] 0 0 := Stand.of_body Bd
 have e0 : s₁.heap = h0 := by rw [← hh, Bd.state]; rfl
 have N0 := Fr.nil n0
 have hn0 : n0 ≤ h0.size := O0.1 ▸ O0.2.1
 have CR0 := CHr.refl hCH
 have hS0 : s.Since s.vm h0.size := (State.WarmedH.refl s).since _
 have pre0 : ∀ t, SS p e below s₁ m 0 #[vR a1, .unset] [] t → SE p e below s₁ m #[(.ref a1)] 2 t := fun t k => castTop (ef_rmStS m a1) k
 have wStr : ∀ d ∈ Bundle.stringAtoms, d.before a0 Z = true := fun d hd => hw d ((by decide +kernel : ∀ d ∈ Bundle.stringAtoms, d ∈ tables_1) d hd)
 have hEW : EW Z a0 EL1 := EW.cons (tw hw 126 rfl) (by decide) (EW.cons (tw hw 0 rfl) (by decide) (EW.cons (tw hw 184 rfl) (by decide) EW.nil))
 have hA := own_afacts bs
 have hB := own_bfacts bs
 have hA2 := hA.2.1
 have hB2 := hB.2.1
 have lt_a1 : @LT.lt Nat _ a1 h0.size := Es.lt
 have lt_t1 : @LT.lt Nat _ t1 h0.size := Vs.lt
 obtain ⟨cq101, kq101, q101a, q101b, q101c⟩ := isOf hZ e0 Es
 obtain ⟨_, _, ⟨T101, L101, k101, n101⟩, -, X101, ⟨Lc101, hQ101, l101, y101, z101⟩, st101⟩ := X0.virtualBack hx (y := mN1) (z := mN1) hown (mvT hZ (tw hw 14 rfl)) (mvT hZ (tw hw 15 rfl)) (notFace_of_selects (args := #[]) (mvT hZ (tw hw 17 rfl))) (mvT hZ (tw hw 17 rfl)) (mvT hZ (tw hw 16 rfl)) (by decide) (backOf (W := 0) (rmIsLat l Z a0 hw [] a1 bs t1 k1 cs0 h0 n0 O0 S_CS c_CS Es Sv Sc Vs hn) hZ (tw hw 18 rfl) (tw hw 1 rfl) (by decide) (by decide)) q101a q101c (g := (mkF m 1 #[vR a1, .unset] [(.ref a1)])) rfl (by rw [hml]; rfl) (Steps.refl _) (argsL := []) (rest := []) (lenOf pd_1 rfl) rfl (wL _) (hb hby d22_1) (fun _ _ => ⟨rfl, e0, (by decide : 0 + 0 ≤ _), (by decide : 0 + 0 ≤ _)⟩)
 dsimp only [Pt.U, Pt.locs, Pt.cells, Pt.slots] at X101 l101 y101 z101 st101 hQ101
 rw [l101] at X101
 subst y101 z101
 obtain ⟨rfl, N101q, H101⟩ := hQ101
 have N101 := Fr.app N0 N101q
 obtain ⟨T102, X102, e102, st102⟩ := getF X101 hx hZ hown (host := "") (Or.inl (tw hw 21 rfl)) Via.refl H101 Sv (g := (mkF m 8 #[vR a1, .unset] [(.ref a1)])) rfl rfl (hb hby d22_8)
 obtain ⟨_, _, ⟨T103, L103, k103, n103⟩, -, X103q, hSq103, hgr103, ⟨Lc103, hQ103, l103, y103, z103, cr103⟩, st103⟩ := callSS X102 hx (y := mN27) hown (mvT hZ (tw hw 101 rfl)) (mvT hZ (tw hw 102 rfl)) (mvT hZ (tw hw 24 rfl)) (mvT hZ (tw hw 103 rfl)) (by decide) (backOfSH (s := s) (vm0 := s.vm) (EL := EL1) (W := 0) (rmLsS l Z a0 hw [] t1 bs k1 cin ta kA h0 n0 O0 Vs hn S_IN E_IN S_A V_A hS) hZ (tw hw 103 rfl) (tw hw 24 rfl) (by decide) (by decide) hEW CR0.1) (g := (mkF m 11 #[vR a1, .unset] [(.ref t1)])) rfl (by rw [hml]; rfl) (argsL := [(.ref t1)]) (rest := []) (lenOf pd_19 rfl) rfl (wL _) (hb hby d22_11) (fun _ _ => ⟨rfl, e102, (by decide : 0 + 6 ≤ _), (by decide : 0 + 52 ≤ _)⟩)
 dsimp only [Pt.U, Pt.locs, Pt.cells, Pt.slots] at X103q l103 y103 z103 st103 hQ103 hSq103 hgr103 cr103
 rw [l103] at X103q
 subst y103 z103
 obtain ⟨X103, hS103, hZ103, hown103⟩ := rebS (s := s) (vm0 := s.vm) hS0 (by rw [e102]; omega) X103q hSq103 hgr103 hZ hown
 obtain ⟨y103, t103, kb103, rfl, N103q, K103, Es103, Sv103, Sc103, Vs103⟩ := hQ103
 have lty103 : @LT.lt Nat _ y103 T103.heap.size := Es103.lt
 have ltt103 : @LT.lt Nat _ t103 T103.heap.size := Vs103.lt
 have cR1_K103 := CR0.trans cr103
 have sz1_K103 := K103.1
 have N103 := Fr.app N101 N103q
 have KC104 : Keep h0 T103.heap [] := (Keep.refl h0 []).trans K103 (all0)
 obtain ⟨fs, hr, hrun, hended, eR, eW, eI, eS⟩ := Stand.leaveW (s := s) (vm₁ := T103.vm) X103 hS103 (by omega) (v := some (.ref y103)) (nvr Bd.returns)
 refine ⟨_, _, pre0 _ ?_, hrun, hended, _, _, rfl, ?_, ?_, eR, eW, eI, eS.mono (by decide) (by decide)⟩
 ·skip
  show SS p e below s₁ m 0 #[vR a1, .unset] [] _
  refine XS.aloadN X0.here hx rfl (hb hby d22_0) rfl rfl ?_
  show SS p e below s₁ m 1 #[vR a1, .unset] [(.ref a1)] _
  refine st101.trans ?_
  refine XS.ifNo X101.here hx rfl (hb hby d22_4) rfl ((if0 _ _).trans (feq (by decide : ¬ ((1 : Int32) = (0 : Int32)))).1) ?_
  refine XS.aloadN X101.here hx rfl (hb hby d22_7) rfl rfl ?_
  show SS p e below T101 m 8 #[vR a1, .unset] [(.ref a1)] _
  refine st102 _ ?_
  show SS p e below T102 m 11 #[vR a1, .unset] [(.ref t1)] _
  refine st103.trans ?_
  refine XS.goto X103.here hx rfl (pc0 := 14) (pc' := 24) rfl (hb hby d22_14) (by decide) (by decide) ?_
  refine XS.astoreN X103.here hx rfl (hb hby d22_24) rfl rfl (l' := #[vR a1, vR y103]) rfl ?_
  refine XS.aloadN X103.here hx rfl (hb hby d22_25) rfl rfl ?_
  refine XS.ifnonnullYes X103.here hx rfl (pc0 := 26) (pc' := 33) rfl (hb hby d22_26) rfl (by decide) (by decide) ?_
  refine XS.aloadN X103.here hx rfl (hb hby d22_33) rfl rfl ?_
  show SS p e below T103 m 34 #[vR a1, vR y103] [(.ref y103)] _
  exact X103.areturnOut hx rfl Bd.returns rfl (hb hby d22_34) hr
 ·show Q_rmStS Z a1 bs cs0 t1 k1 cin ta kA h0 n0 _ T103.heap _
  exact ⟨_, _, _, rfl, N103, KC104, Es103, Sv103, Sc103, Vs103⟩
 ·show CHr Z EL1 s.vm s.heap T103.vm T103.heap
  rw [hh]
  exact cR1_K103.trans (CHv.at (s := s) (vm0 := T103.vm) X103 hZ103 hEW cR1_K103.1)
theorem d22_29 : DK cD28 29 (.aload_n 0) 1 := by decide +kernel
theorem d22_30 : DK cD28 30 (.goto 4) 3 := by decide +kernel
theorem ef_rmStN (m : MethodId) (y0 : Addr) : entryFrame m #[(.ref y0)] 2 = (mkF m 0 #[vR y0, .unset] []) := by first | (simp [entryFrame, mkF, argsToLocals, Value.category]; done) | rfl
def Q_rmStN (Z : State) (a1 : Addr) (bs : List Int32) (cs0 : Int32) (t1 : Addr) (k1 : ClassId) (cin ta : Addr) (kA : ClassId) (h0 : Heap) (n0 : Nat) (v : Option Value) (h : Heap) (L : List Loc) : Prop := ∃ (y t : Addr) (kb : ClassId), v = some (.ref y) ∧ Fr n0 L ∧ Keep h0 h [] ∧ Exa Z h y "java/lang/String" ∧ Fld Z h y "java/lang/String" "value" "[B" (.ref t) ∧ Fld Z h y "java/lang/String" "coder" "B" (.int 0) ∧ Arv Z h t kb .byte (Int32.ofNat (stripL bs).length) ((stripL bs).map Value.int) (.int 0)
theorem rmStN (l : Launch) (Z : State) (a0 : Array Value) (hw : HW a0 Z) (ws : List Jvm.Cond) (a1 : Addr) (bs : List Int32) (cs0 : Int32) (t1 : Addr) (k1 : ClassId) (cin ta : Addr) (kA : ClassId) (h0 : Heap) (n0 : Nat) (O0 : Old Z n0 h0) (S_CS : SCS Z cs0) (c_CS : ¬ (cs0 = (0 : Int32))) (Es : Exa Z h0 a1 "java/lang/String") (Sv : Fld Z h0 a1 "java/lang/String" "value" "[B" (.ref t1)) (Sc : Fld Z h0 a1 "java/lang/String" "coder" "B" (.int 0)) (Vs : Arv Z h0 t1 k1 .byte (Int32.ofNat bs.length) (bs.map Value.int) (.int 0)) (hn : bs.length ≤ 40) (S_IN : Sta Z Z.heap "java/lang/CharacterDataLatin1" "instance" "Ljava/lang/CharacterDataLatin1;" (.ref cin)) (E_IN : Exa Z Z.heap cin "java/lang/CharacterDataLatin1") (S_A : Sta Z Z.heap "java/lang/CharacterDataLatin1" "A" "[I" (.ref ta)) (V_A : Arv Z Z.heap ta kA .int (256 : Int32) (tabA.map Value.int) (.int 0)) (hS : aN bs = 0 ∧ bN bs = bs.length ∧ 0 < bs.length) :
  MetFree l mN28 (head1 (Jvm.Cond.code mN28 jdk_42_method_114_code 2 (some (.object "java/lang/String")) :: ws) (Rm 5 6 52 150)) (fun a U => a = #[(.ref a1)] ∧ Z.Warmed39 U.vm ∧ U.heap = h0 ∧ CHv Z EL1 U.vm h0) (fun _ _ _ _ _ => True) (fun _ U o U' => ∃ v L, o = .returned v ∧ Q_rmStN Z a1 bs cs0 t1 k1 cin ta kA h0 n0 v U'.heap L ∧ CHr Z EL1 U.vm U.heap U'.vm U'.heap ∧ ReturnedEndW U o U' L (Rm 5 6 52 150).cells (Rm 5 6 52 150).slots) := by
 refine MetFree.of_bodySF (plainFor_of_name pn_1) hisR ?_
 intro p e s m args below meth c s₁ Bd hml0 hP hK
 obtain ⟨rfl, hZ, hh, hCH⟩ := hP
 have hx := Bd.exec
 have hby := Bd.bytes
 have hml : c.maxLocals = 2 := hml0
 have hown : s.vm.findClass "java/lang/String" = some m.cls := findClass_of_methodNamed Bd.named
 have X0 : Stand p l e (Rm 5 6 52 150) s m #[(.ref a1)] below meth c s₁ [] 0 0 := Stand.of_body Bd
 have e0 : s₁.heap = h0 := by rw [← hh, Bd.state]; rfl
 have N0 := Fr.nil n0
 have hn0 : n0 ≤ h0.size := O0.1 ▸ O0.2.1
 have CR0 := CHr.refl hCH
 have hS0 : s.Since s.vm h0.size := (State.WarmedH.refl s).since _
 have pre0 : ∀ t, SS p e below s₁ m 0 #[vR a1, .unset] [] t → SE p e below s₁ m #[(.ref a1)] 2 t := fun t k => castTop (ef_rmStN m a1) k
 have wStr : ∀ d ∈ Bundle.stringAtoms, d.before a0 Z = true := fun d hd => hw d ((by decide +kernel : ∀ d ∈ Bundle.stringAtoms, d ∈ tables_1) d hd)
 have hEW : EW Z a0 EL1 := EW.cons (tw hw 126 rfl) (by decide) (EW.cons (tw hw 0 rfl) (by decide) (EW.cons (tw hw 184 rfl) (by decide) EW.nil))
 have hA := own_afacts bs
 have hB := own_bfacts bs
 have hA2 := hA.2.1
 have hB2 := hB.2.1
 have lt_a1 : @LT.lt Nat _ a1 h0.size := Es.lt
 have lt_t1 : @LT.lt Nat _ t1 h0.size := Vs.lt
 obtain ⟨cq101, kq101, q101a, q101b, q101c⟩ := isOf hZ e0 Es
 obtain ⟨_, _, ⟨T101, L101, k101, n101⟩, -, X101, ⟨Lc101, hQ101, l101, y101, z101⟩, st101⟩ := X0.virtualBack hx (y := mN1) (z := mN1) hown (mvT hZ (tw hw 14 rfl)) (mvT hZ (tw hw 15 rfl)) (notFace_of_selects (args := #[]) (mvT hZ (tw hw 17 rfl))) (mvT hZ (tw hw 17 rfl)) (mvT hZ (tw hw 16 rfl)) (by decide) (backOf (W := 0) (rmIsLat l Z a0 hw [] a1 bs t1 k1 cs0 h0 n0 O0 S_CS c_CS Es Sv Sc Vs hn) hZ (tw hw 18 rfl) (tw hw 1 rfl) (by decide) (by decide)) q101a q101c (g := (mkF m 1 #[vR a1, .unset] [(.ref a1)])) rfl (by rw [hml]; rfl) (Steps.refl _) (argsL := []) (rest := []) (lenOf pd_1 rfl) rfl (wL _) (hb hby d22_1) (fun _ _ => ⟨rfl, e0, (by decide : 0 + 0 ≤ _), (by decide : 0 + 0 ≤ _)⟩)
 dsimp only [Pt.U, Pt.locs, Pt.cells, Pt.slots] at X101 l101 y101 z101 st101 hQ101
 rw [l101] at X101
 subst y101 z101
 obtain ⟨rfl, N101q, H101⟩ := hQ101
 have N101 := Fr.app N0 N101q
 obtain ⟨T102, X102, e102, st102⟩ := getF X101 hx hZ hown (host := "") (Or.inl (tw hw 21 rfl)) Via.refl H101 Sv (g := (mkF m 8 #[vR a1, .unset] [(.ref a1)])) rfl rfl (hb hby d22_8)
 obtain ⟨_, _, ⟨T103, L103, k103, n103⟩, -, X103, ⟨Lc103, hQ103, l103, y103, z103⟩, st103⟩ := Jvm.LawKit.callS X102 hx (y := mN27) hown (mvT hZ (tw hw 101 rfl)) (mvT hZ (tw hw 102 rfl)) (mvT hZ (tw hw 24 rfl)) (mvT hZ (tw hw 103 rfl)) (by decide) (backOf (W := 0) (rmLsN l Z a0 hw [] t1 bs k1 cin ta kA h0 n0 O0 Vs hn S_IN E_IN S_A V_A hS) hZ (tw hw 103 rfl) (tw hw 24 rfl) (by decide) (by decide)) (g := (mkF m 11 #[vR a1, .unset] [(.ref t1)])) rfl (by rw [hml]; rfl) (argsL := [(.ref t1)]) (rest := []) (lenOf pd_19 rfl) rfl (wL _) (hb hby d22_11) (fun _ _ => ⟨rfl, e102, (by decide : 0 + 0 ≤ _), (by decide : 0 + 0 ≤ _)⟩)
 dsimp only [Pt.U, Pt.locs, Pt.cells, Pt.slots] at X103 l103 y103 z103 st103 hQ103
 rw [l103] at X103
 subst y103 z103
 obtain ⟨rfl, N103q, H103⟩ := hQ103
 have N103 := Fr.app N101 N103q
 obtain ⟨fs, hr, hrun, hended, eR, eW, eI, eS⟩ := Stand.leaveW (s := s) (vm₁ := s.vm) X103 hS0 (by rw [H103]; omega) (v := some (.ref a1)) (nvr Bd.returns)
 refine ⟨_, _, pre0 _ ?_, hrun, hended, _, _, rfl, ?_, ?_, eR, eW, eI, eS.mono (by decide) (by decide)⟩
 ·skip
  show SS p e below s₁ m 0 #[vR a1, .unset] [] _
  refine XS.aloadN X0.here hx rfl (hb hby d22_0) rfl rfl ?_
  show SS p e below s₁ m 1 #[vR a1, .unset] [(.ref a1)] _
  refine st101.trans ?_
  refine XS.ifNo X101.here hx rfl (hb hby d22_4) rfl ((if0 _ _).trans (feq (by decide : ¬ ((1 : Int32) = (0 : Int32)))).1) ?_
  refine XS.aloadN X101.here hx rfl (hb hby d22_7) rfl rfl ?_
  show SS p e below T101 m 8 #[vR a1, .unset] [(.ref a1)] _
  refine st102 _ ?_
  show SS p e below T102 m 11 #[vR a1, .unset] [(.ref t1)] _
  refine st103 _ ?_
  refine XS.goto X103.here hx rfl (pc0 := 14) (pc' := 24) rfl (hb hby d22_14) (by decide) (by decide) ?_
  refine XS.astoreN X103.here hx rfl (hb hby d22_24) rfl rfl (l' := #[vR a1, .val .null]) rfl ?_
  refine XS.aloadN X103.here hx rfl (hb hby d22_25) rfl rfl ?_
  refine XS.ifnonnullNo X103.here hx rfl (hb hby d22_26) rfl ?_
  refine XS.aloadN X103.here hx rfl (hb hby d22_29) rfl rfl ?_
  refine XS.goto X103.here hx rfl (pc0 := 30) (pc' := 34) rfl (hb hby d22_30) (by decide) (by decide) ?_
  show SS p e below T103 m 34 #[vR a1, .val .null] [(.ref a1)] _
  exact X103.areturnOut hx rfl Bd.returns rfl (hb hby d22_34) hr
 ·show Q_rmStN Z a1 bs cs0 t1 k1 cin ta kA h0 n0 _ T103.heap _
  rw [H103]
  exact ⟨_, _, _, rfl, N103, (Keep.refl h0 []), Es, Sv, Sc, (by rw [own_stripeq, hS.1, hS.2.1, List.drop_zero, Nat.sub_zero, List.take_length]; exact Vs)⟩
 ·show CHr Z EL1 s.vm s.heap T103.vm T103.heap
  rw [hh, H103]
  exact CR0.trans (CHv.at (s := s) (vm0 := s.vm) X103 hZ hEW CR0.1)
def Q_rmSt (Z : State) (a1 : Addr) (bs : List Int32) (cs0 : Int32) (t1 : Addr) (k1 : ClassId) (cin ta : Addr) (kA : ClassId) (h0 : Heap) (n0 : Nat) (v : Option Value) (h : Heap) (L : List Loc) : Prop := ∃ (y t : Addr) (kb : ClassId), v = some (.ref y) ∧ Fr n0 L ∧ Keep h0 h [] ∧ Exa Z h y "java/lang/String" ∧ Fld Z h y "java/lang/String" "value" "[B" (.ref t) ∧ Fld Z h y "java/lang/String" "coder" "B" (.int 0) ∧ Arv Z h t kb .byte (Int32.ofNat (stripL bs).length) ((stripL bs).map Value.int) (.int 0)
theorem rmSt (l : Launch) (Z : State) (a0 : Array Value) (hw : HW a0 Z) (ws : List Jvm.Cond) (a1 : Addr) (bs : List Int32) (cs0 : Int32) (t1 : Addr) (k1 : ClassId) (cin ta : Addr) (kA : ClassId) (h0 : Heap) (n0 : Nat) (O0 : Old Z n0 h0) (S_CS : SCS Z cs0) (c_CS : ¬ (cs0 = (0 : Int32))) (Es : Exa Z h0 a1 "java/lang/String") (Sv : Fld Z h0 a1 "java/lang/String" "value" "[B" (.ref t1)) (Sc : Fld Z h0 a1 "java/lang/String" "coder" "B" (.int 0)) (Vs : Arv Z h0 t1 k1 .byte (Int32.ofNat bs.length) (bs.map Value.int) (.int 0)) (hn : bs.length ≤ 40) (S_IN : Sta Z Z.heap "java/lang/CharacterDataLatin1" "instance" "Ljava/lang/CharacterDataLatin1;" (.ref cin)) (E_IN : Exa Z Z.heap cin "java/lang/CharacterDataLatin1") (S_A : Sta Z Z.heap "java/lang/CharacterDataLatin1" "A" "[I" (.ref ta)) (V_A : Arv Z Z.heap ta kA .int (256 : Int32) (tabA.map Value.int) (.int 0)) :
  MetFree l mN28 (head1 (Jvm.Cond.code mN28 jdk_42_method_114_code 2 (some (.object "java/lang/String")) :: ws) (Rm 5 6 52 150)) (fun a U => a = #[(.ref a1)] ∧ Z.Warmed39 U.vm ∧ U.heap = h0 ∧ CHv Z EL1 U.vm h0) (fun _ _ _ _ _ => True) (fun _ U o U' => ∃ v L, o = .returned v ∧ Q_rmSt Z a1 bs cs0 t1 k1 cin ta kA h0 n0 v U'.heap L ∧ CHr Z EL1 U.vm U.heap U'.vm U'.heap ∧ ReturnedEndW U o U' L (Rm 5 6 52 150).cells (Rm 5 6 52 150).slots) := by
 have hA := own_afacts bs
 have hB := own_bfacts bs
 by_cases hS : aN bs = bs.length ∨ 0 < aN bs ∨ bN bs < bs.length
 ·exact rmStS l Z a0 hw ws a1 bs cs0 t1 k1 cin ta kA h0 n0 O0 S_CS c_CS Es Sv Sc Vs hn S_IN E_IN S_A V_A hS
 ·exact rmStN l Z a0 hw ws a1 bs cs0 t1 k1 cin ta kA h0 n0 O0 S_CS c_CS Es Sv Sc Vs hn S_IN E_IN S_A V_A (by have := hB.2.1; have := hA.2.1; omega)
theorem d32_0 : DK cD29 0 (.iload_n 0) 1 := by decide +kernel
theorem d32_1 : DK cD29 1 (.iload_n 1) 1 := by decide +kernel
theorem d32_2 : DK cD29 2 (.if_icmp .ne 5) 3 := by decide +kernel
theorem d32_5 : DK cD29 5 (.iconst 1) 1 := by decide +kernel
theorem d32_6 : DK cD29 6 (.ireturn) 1 := by decide +kernel
theorem d32_7 : DK cD29 7 (.iload_n 0) 1 := by decide +kernel
theorem d32_8 : DK cD29 8 (.sipush 223) 3 := by decide +kernel
theorem d32_11 : DK cD29 11 (.iand) 1 := by decide +kernel
theorem d32_12 : DK cD29 12 (.istore_n 2) 1 := by decide +kernel
theorem d32_13 : DK cD29 13 (.iload_n 2) 1 := by decide +kernel
theorem d32_14 : DK cD29 14 (.bipush 65) 2 := by decide +kernel
theorem d32_16 : DK cD29 16 (.if_icmp .ge 5) 3 := by decide +kernel
theorem d32_19 : DK cD29 19 (.iconst 0) 1 := by decide +kernel
theorem d32_20 : DK cD29 20 (.ireturn) 1 := by decide +kernel
theorem d32_21 : DK cD29 21 (.iload_n 2) 1 := by decide +kernel
theorem d32_22 : DK cD29 22 (.bipush 90) 2 := by decide +kernel
theorem d32_24 : DK cD29 24 (.if_icmp .le 24) 3 := by decide +kernel
theorem d32_27 : DK cD29 27 (.iload_n 2) 1 := by decide +kernel
theorem d32_28 : DK cD29 28 (.sipush 192) 3 := by decide +kernel
theorem d32_31 : DK cD29 31 (.if_icmp .lt 30) 3 := by decide +kernel
theorem d32_34 : DK cD29 34 (.iload_n 2) 1 := by decide +kernel
theorem d32_35 : DK cD29 35 (.sipush 222) 3 := by decide +kernel
theorem d32_38 : DK cD29 38 (.if_icmp .gt 23) 3 := by decide +kernel
theorem d32_41 : DK cD29 41 (.iload_n 2) 1 := by decide +kernel
theorem d32_42 : DK cD29 42 (.sipush 215) 3 := by decide +kernel
theorem d32_45 : DK cD29 45 (.if_icmp .eq 16) 3 := by decide +kernel
theorem d32_48 : DK cD29 48 (.iload_n 2) 1 := by decide +kernel
theorem d32_49 : DK cD29 49 (.iload_n 1) 1 := by decide +kernel
theorem d32_50 : DK cD29 50 (.sipush 223) 3 := by decide +kernel
theorem d32_53 : DK cD29 53 (.iand) 1 := by decide +kernel
theorem d32_54 : DK cD29 54 (.if_icmp .ne 7) 3 := by decide +kernel
theorem d32_57 : DK cD29 57 (.iconst 1) 1 := by decide +kernel
theorem d32_58 : DK cD29 58 (.goto 4) 3 := by decide +kernel
theorem d32_61 : DK cD29 61 (.iconst 0) 1 := by decide +kernel
theorem d32_62 : DK cD29 62 (.ireturn) 1 := by decide +kernel
theorem ef_rmCI (m : MethodId) (y0 : Int32) (y1 : Int32) : entryFrame m #[(.int y0), (.int y1)] 3 = (mkF m 0 #[vI y0, vI y1, .unset] []) := by first | (simp [entryFrame, mkF, argsToLocals, Value.category]; done) | rfl
def Q_rmCI (Z : State) (p1 : Int32) (p2 : Int32) (h0 : Heap) (n0 : Nat) (v : Option Value) (h : Heap) (L : List Loc) : Prop := v = some (.int (ciF p1 p2)) ∧ Fr n0 L ∧ h = h0
theorem rmCI (l : Launch) (Z : State) (a0 : Array Value) (hw : HW a0 Z) (ws : List Jvm.Cond) (p1 : Int32) (p2 : Int32) (h0 : Heap) (n0 : Nat) (O0 : Old Z n0 h0) :
  MF l mN29 jdk_116_method_22_code 3 (some .boolean) ws (Rm 0 0 0 0) Z #[(.int p1), (.int p2)] h0 (Q_rmCI Z p1 p2 h0 n0) := by
 refine MetFree.of_bodySF (plainFor_of_name pn_26) hisR ?_
 intro p e s m args below meth c s₁ Bd hml0 hP hK
 obtain ⟨rfl, hZ, hh⟩ := hP
 have hx := Bd.exec
 have hby := Bd.bytes
 have hml : c.maxLocals = 3 := hml0
 have hown : s.vm.findClass "java/lang/CharacterDataLatin1" = some m.cls := findClass_of_methodNamed Bd.named
 have X0 : Stand p l e (Rm 0 0 0 0) s m #[(.int p1), (.int p2)] below meth c s₁ [] 0 0 := Stand.of_body Bd
 have e0 : s₁.heap = h0 := by rw [← hh, Bd.state]; rfl
 have N0 := Fr.nil n0
 have hn0 : n0 ≤ h0.size := O0.1 ▸ O0.2.1
 have pre0 : ∀ t, SS p e below s₁ m 0 #[vI p1, vI p2, .unset] [] t → SE p e below s₁ m #[(.int p1), (.int p2)] 3 t := fun t k => castTop (ef_rmCI m p1 p2) k
 have pre102 : ∀ t, SS p e below s₁ m 2 #[vI p1, vI p2, .unset] [(.int p2), (.int p1)] t → SE p e below s₁ m #[(.int p1), (.int p2)] 3 t := by
  intro t kt
  refine pre0 _ ?_
  show SS p e below s₁ m 0 #[vI p1, vI p2, .unset] [] _
  refine XS.iloadN X0.here hx rfl (hb hby d32_0) rfl ?_
  refine XS.iloadN X0.here hx rfl (hb hby d32_1) rfl ?_
  exact kt
 by_cases hc101 : p1 = p2
 ·skip
  obtain ⟨fs, hr, hrun, hended, hW, hsame⟩ := X0.leave (v := some (.int 1)) (nvr Bd.returns)
  refine ⟨_, _, pre102 _ ?_, hrun, hended, _, _, rfl, ?_, ⟨_, rfl⟩, hW, hsame.mono (by decide) (by decide)⟩
  ·skip
   show SS p e below s₁ m 2 #[vI p1, vI p2, .unset] [(.int p2), (.int p1)] _
   refine XS.icmpNo X0.here hx rfl (hb hby d32_2) rfl (teq hc101).2 ?_
   refine XS.iconst X0.here hx rfl (hb hby d32_5) ?_
   show SS p e below s₁ m 6 #[vI p1, vI p2, .unset] [(.int 1)] _
   exact retN X0 hx (t := .boolean) Bd.returns (by simp) (hb hby d32_6) hr
  ·show Q_rmCI Z p1 p2 h0 n0 _ s₁.heap _
   rw [e0]
   exact ⟨by rw [ciF, if_pos hc101], N0, rfl⟩
 ·skip
  have pre104 : ∀ t, SS p e below s₁ m 16 #[vI p1, vI p2, vI (p1 &&& (223 : Int32))] [(.int 65), (.int (p1 &&& (223 : Int32)))] t → SE p e below s₁ m #[(.int p1), (.int p2)] 3 t := by
   intro t kt
   refine pre102 _ ?_
   show SS p e below s₁ m 2 #[vI p1, vI p2, .unset] [(.int p2), (.int p1)] _
   refine XS.icmpYes X0.here hx rfl (pc0 := 2) (pc' := 7) rfl (hb hby d32_2) rfl (feq hc101).2 (by decide) (by decide) ?_
   refine XS.iloadN X0.here hx rfl (hb hby d32_7) rfl ?_
   refine XS.sipush X0.here hx rfl (hb hby d32_8) ?_
   refine XS.iand X0.here hx rfl (hb hby d32_11) rfl ?_
   refine XS.istoreN X0.here hx rfl (hb hby d32_12) rfl (l' := #[vI p1, vI p2, vI (p1 &&& (223 : Int32))]) rfl ?_
   refine XS.iloadN X0.here hx rfl (hb hby d32_13) rfl ?_
   refine XS.bipush X0.here hx rfl (hb hby d32_14) ?_
   exact kt
  by_cases hc103 : (p1 &&& (223 : Int32)) < (65 : Int32)
  ·skip
   obtain ⟨fs, hr, hrun, hended, hW, hsame⟩ := X0.leave (v := some (.int 0)) (nvr Bd.returns)
   refine ⟨_, _, pre104 _ ?_, hrun, hended, _, _, rfl, ?_, ⟨_, rfl⟩, hW, hsame.mono (by decide) (by decide)⟩
   ·skip
    show SS p e below s₁ m 16 #[vI p1, vI p2, vI (p1 &&& (223 : Int32))] [(.int 65), (.int (p1 &&& (223 : Int32)))] _
    refine XS.icmpNo X0.here hx rfl (hb hby d32_16) rfl (tlt hc103).2.1 ?_
    refine XS.iconst X0.here hx rfl (hb hby d32_19) ?_
    show SS p e below s₁ m 20 #[vI p1, vI p2, vI (p1 &&& (223 : Int32))] [(.int 0)] _
    exact retN X0 hx (t := .boolean) Bd.returns (by simp) (hb hby d32_20) hr
   ·show Q_rmCI Z p1 p2 h0 n0 _ s₁.heap _
    rw [e0]
    exact ⟨by rw [ciF, if_neg hc101, if_pos hc103], N0, rfl⟩
  ·skip
   have pre106 : ∀ t, SS p e below s₁ m 24 #[vI p1, vI p2, vI (p1 &&& (223 : Int32))] [(.int 90), (.int (p1 &&& (223 : Int32)))] t → SE p e below s₁ m #[(.int p1), (.int p2)] 3 t := by
    intro t kt
    refine pre104 _ ?_
    show SS p e below s₁ m 16 #[vI p1, vI p2, vI (p1 &&& (223 : Int32))] [(.int 65), (.int (p1 &&& (223 : Int32)))] _
    refine XS.icmpYes X0.here hx rfl (pc0 := 16) (pc' := 21) rfl (hb hby d32_16) rfl (flt hc103).2.1 (by decide) (by decide) ?_
    refine XS.iloadN X0.here hx rfl (hb hby d32_21) rfl ?_
    refine XS.bipush X0.here hx rfl (hb hby d32_22) ?_
    exact kt
   by_cases hc105 : (90 : Int32) < (p1 &&& (223 : Int32))
   ·skip
    have pre108 : ∀ t, SS p e below s₁ m 31 #[vI p1, vI p2, vI (p1 &&& (223 : Int32))] [(.int 192), (.int (p1 &&& (223 : Int32)))] t → SE p e below s₁ m #[(.int p1), (.int p2)] 3 t := by
     intro t kt
     refine pre106 _ ?_
     show SS p e below s₁ m 24 #[vI p1, vI p2, vI (p1 &&& (223 : Int32))] [(.int 90), (.int (p1 &&& (223 : Int32)))] _
     refine XS.icmpNo X0.here hx rfl (hb hby d32_24) rfl (tlt hc105).2.2.2 ?_
     refine XS.iloadN X0.here hx rfl (hb hby d32_27) rfl ?_
     refine XS.sipush X0.here hx rfl (hb hby d32_28) ?_
     exact kt
    by_cases hc107 : (p1 &&& (223 : Int32)) < (192 : Int32)
    ·skip
     obtain ⟨fs, hr, hrun, hended, hW, hsame⟩ := X0.leave (v := some (.int 0)) (nvr Bd.returns)
     refine ⟨_, _, pre108 _ ?_, hrun, hended, _, _, rfl, ?_, ⟨_, rfl⟩, hW, hsame.mono (by decide) (by decide)⟩
     ·skip
      show SS p e below s₁ m 31 #[vI p1, vI p2, vI (p1 &&& (223 : Int32))] [(.int 192), (.int (p1 &&& (223 : Int32)))] _
      refine XS.icmpYes X0.here hx rfl (pc0 := 31) (pc' := 61) rfl (hb hby d32_31) rfl (tlt hc107).1 (by decide) (by decide) ?_
      refine XS.iconst X0.here hx rfl (hb hby d32_61) ?_
      show SS p e below s₁ m 62 #[vI p1, vI p2, vI (p1 &&& (223 : Int32))] [(.int 0)] _
      exact retN X0 hx (t := .boolean) Bd.returns (by simp) (hb hby d32_62) hr
     ·show Q_rmCI Z p1 p2 h0 n0 _ s₁.heap _
      rw [e0]
      exact ⟨by rw [ciF, if_neg hc101, if_neg hc103, if_pos ⟨hc105, Or.inl hc107⟩], N0, rfl⟩
    ·skip
     have pre110 : ∀ t, SS p e below s₁ m 38 #[vI p1, vI p2, vI (p1 &&& (223 : Int32))] [(.int 222), (.int (p1 &&& (223 : Int32)))] t → SE p e below s₁ m #[(.int p1), (.int p2)] 3 t := by
      intro t kt
      refine pre108 _ ?_
      show SS p e below s₁ m 31 #[vI p1, vI p2, vI (p1 &&& (223 : Int32))] [(.int 192), (.int (p1 &&& (223 : Int32)))] _
      refine XS.icmpNo X0.here hx rfl (hb hby d32_31) rfl (flt hc107).1 ?_
      refine XS.iloadN X0.here hx rfl (hb hby d32_34) rfl ?_
      refine XS.sipush X0.here hx rfl (hb hby d32_35) ?_
      exact kt
     by_cases hc109 : (222 : Int32) < (p1 &&& (223 : Int32))
     ·skip
      obtain ⟨fs, hr, hrun, hended, hW, hsame⟩ := X0.leave (v := some (.int 0)) (nvr Bd.returns)
      refine ⟨_, _, pre110 _ ?_, hrun, hended, _, _, rfl, ?_, ⟨_, rfl⟩, hW, hsame.mono (by decide) (by decide)⟩
      ·skip
       show SS p e below s₁ m 38 #[vI p1, vI p2, vI (p1 &&& (223 : Int32))] [(.int 222), (.int (p1 &&& (223 : Int32)))] _
       refine XS.icmpYes X0.here hx rfl (pc0 := 38) (pc' := 61) rfl (hb hby d32_38) rfl (tlt hc109).2.2.1 (by decide) (by decide) ?_
       refine XS.iconst X0.here hx rfl (hb hby d32_61) ?_
       show SS p e below s₁ m 62 #[vI p1, vI p2, vI (p1 &&& (223 : Int32))] [(.int 0)] _
       exact retN X0 hx (t := .boolean) Bd.returns (by simp) (hb hby d32_62) hr
      ·show Q_rmCI Z p1 p2 h0 n0 _ s₁.heap _
       rw [e0]
       exact ⟨by rw [ciF, if_neg hc101, if_neg hc103, if_pos ⟨hc105, Or.inr (Or.inl hc109)⟩], N0, rfl⟩
     ·skip
      have pre112 : ∀ t, SS p e below s₁ m 45 #[vI p1, vI p2, vI (p1 &&& (223 : Int32))] [(.int 215), (.int (p1 &&& (223 : Int32)))] t → SE p e below s₁ m #[(.int p1), (.int p2)] 3 t := by
       intro t kt
       refine pre110 _ ?_
       show SS p e below s₁ m 38 #[vI p1, vI p2, vI (p1 &&& (223 : Int32))] [(.int 222), (.int (p1 &&& (223 : Int32)))] _
       refine XS.icmpNo X0.here hx rfl (hb hby d32_38) rfl (flt hc109).2.2.1 ?_
       refine XS.iloadN X0.here hx rfl (hb hby d32_41) rfl ?_
       refine XS.sipush X0.here hx rfl (hb hby d32_42) ?_
       exact kt
      by_cases hc111 : (p1 &&& (223 : Int32)) = (215 : Int32)
      ·skip
       obtain ⟨fs, hr, hrun, hended, hW, hsame⟩ := X0.leave (v := some (.int 0)) (nvr Bd.returns)
       refine ⟨_, _, pre112 _ ?_, hrun, hended, _, _, rfl, ?_, ⟨_, rfl⟩, hW, hsame.mono (by decide) (by decide)⟩
       ·skip
        show SS p e below s₁ m 45 #[vI p1, vI p2, vI (p1 &&& (223 : Int32))] [(.int 215), (.int (p1 &&& (223 : Int32)))] _
        refine XS.icmpYes X0.here hx rfl (pc0 := 45) (pc' := 61) rfl (hb hby d32_45) rfl (teq hc111).1 (by decide) (by decide) ?_
        refine XS.iconst X0.here hx rfl (hb hby d32_61) ?_
        show SS p e below s₁ m 62 #[vI p1, vI p2, vI (p1 &&& (223 : Int32))] [(.int 0)] _
        exact retN X0 hx (t := .boolean) Bd.returns (by simp) (hb hby d32_62) hr
       ·show Q_rmCI Z p1 p2 h0 n0 _ s₁.heap _
        rw [e0]
        exact ⟨by rw [ciF, if_neg hc101, if_neg hc103, if_pos ⟨hc105, Or.inr (Or.inr hc111)⟩], N0, rfl⟩
      ·skip
       have pre114 : ∀ t, SS p e below s₁ m 54 #[vI p1, vI p2, vI (p1 &&& (223 : Int32))] [(.int (p2 &&& (223 : Int32))), (.int (p1 &&& (223 : Int32)))] t → SE p e below s₁ m #[(.int p1), (.int p2)] 3 t := by
        intro t kt
        refine pre112 _ ?_
        show SS p e below s₁ m 45 #[vI p1, vI p2, vI (p1 &&& (223 : Int32))] [(.int 215), (.int (p1 &&& (223 : Int32)))] _
        refine XS.icmpNo X0.here hx rfl (hb hby d32_45) rfl (feq hc111).1 ?_
        refine XS.iloadN X0.here hx rfl (hb hby d32_48) rfl ?_
        refine XS.iloadN X0.here hx rfl (hb hby d32_49) rfl ?_
        refine XS.sipush X0.here hx rfl (hb hby d32_50) ?_
        refine XS.iand X0.here hx rfl (hb hby d32_53) rfl ?_
        exact kt
       by_cases hc113 : (p1 &&& (223 : Int32)) = (p2 &&& (223 : Int32))
       ·skip
        obtain ⟨fs, hr, hrun, hended, hW, hsame⟩ := X0.leave (v := some (.int 1)) (nvr Bd.returns)
        refine ⟨_, _, pre114 _ ?_, hrun, hended, _, _, rfl, ?_, ⟨_, rfl⟩, hW, hsame.mono (by decide) (by decide)⟩
        ·skip
         show SS p e below s₁ m 54 #[vI p1, vI p2, vI (p1 &&& (223 : Int32))] [(.int (p2 &&& (223 : Int32))), (.int (p1 &&& (223 : Int32)))] _
         refine XS.icmpNo X0.here hx rfl (hb hby d32_54) rfl (teq hc113).2 ?_
         refine XS.iconst X0.here hx rfl (hb hby d32_57) ?_
         refine XS.goto X0.here hx rfl (pc0 := 58) (pc' := 62) rfl (hb hby d32_58) (by decide) (by decide) ?_
         show SS p e below s₁ m 62 #[vI p1, vI p2, vI (p1 &&& (223 : Int32))] [(.int 1)] _
         exact retN X0 hx (t := .boolean) Bd.returns (by simp) (hb hby d32_62) hr
        ·show Q_rmCI Z p1 p2 h0 n0 _ s₁.heap _
         rw [e0]
         exact ⟨by rw [ciF, if_neg hc101, if_neg hc103, if_neg (fun q => q.2.elim hc107 (fun q => q.elim hc109 hc111)), if_pos hc113], N0, rfl⟩
       ·skip
        obtain ⟨fs, hr, hrun, hended, hW, hsame⟩ := X0.leave (v := some (.int 0)) (nvr Bd.returns)
        refine ⟨_, _, pre114 _ ?_, hrun, hended, _, _, rfl, ?_, ⟨_, rfl⟩, hW, hsame.mono (by decide) (by decide)⟩
        ·skip
         show SS p e below s₁ m 54 #[vI p1, vI p2, vI (p1 &&& (223 : Int32))] [(.int (p2 &&& (223 : Int32))), (.int (p1 &&& (223 : Int32)))] _
         refine XS.icmpYes X0.here hx rfl (pc0 := 54) (pc' := 61) rfl (hb hby d32_54) rfl (feq hc113).2 (by decide) (by decide) ?_
         refine XS.iconst X0.here hx rfl (hb hby d32_61) ?_
         show SS p e below s₁ m 62 #[vI p1, vI p2, vI (p1 &&& (223 : Int32))] [(.int 0)] _
         exact retN X0 hx (t := .boolean) Bd.returns (by simp) (hb hby d32_62) hr
        ·show Q_rmCI Z p1 p2 h0 n0 _ s₁.heap _
         rw [e0]
         exact ⟨by rw [ciF, if_neg hc101, if_neg hc103, if_neg (fun q => q.2.elim hc107 (fun q => q.elim hc109 hc111)), if_neg hc113], N0, rfl⟩
   ·skip
    have pre116 : ∀ t, SS p e below s₁ m 54 #[vI p1, vI p2, vI (p1 &&& (223 : Int32))] [(.int (p2 &&& (223 : Int32))), (.int (p1 &&& (223 : Int32)))] t → SE p e below s₁ m #[(.int p1), (.int p2)] 3 t := by
     intro t kt
     refine pre106 _ ?_
     show SS p e below s₁ m 24 #[vI p1, vI p2, vI (p1 &&& (223 : Int32))] [(.int 90), (.int (p1 &&& (223 : Int32)))] _
     refine XS.icmpYes X0.here hx rfl (pc0 := 24) (pc' := 48) rfl (hb hby d32_24) rfl (flt hc105).2.2.2 (by decide) (by decide) ?_
     refine XS.iloadN X0.here hx rfl (hb hby d32_48) rfl ?_
     refine XS.iloadN X0.here hx rfl (hb hby d32_49) rfl ?_
     refine XS.sipush X0.here hx rfl (hb hby d32_50) ?_
     refine XS.iand X0.here hx rfl (hb hby d32_53) rfl ?_
     exact kt
    by_cases hc115 : (p1 &&& (223 : Int32)) = (p2 &&& (223 : Int32))
    ·skip
     obtain ⟨fs, hr, hrun, hended, hW, hsame⟩ := X0.leave (v := some (.int 1)) (nvr Bd.returns)
     refine ⟨_, _, pre116 _ ?_, hrun, hended, _, _, rfl, ?_, ⟨_, rfl⟩, hW, hsame.mono (by decide) (by decide)⟩
     ·skip
      show SS p e below s₁ m 54 #[vI p1, vI p2, vI (p1 &&& (223 : Int32))] [(.int (p2 &&& (223 : Int32))), (.int (p1 &&& (223 : Int32)))] _
      refine XS.icmpNo X0.here hx rfl (hb hby d32_54) rfl (teq hc115).2 ?_
      refine XS.iconst X0.here hx rfl (hb hby d32_57) ?_
      refine XS.goto X0.here hx rfl (pc0 := 58) (pc' := 62) rfl (hb hby d32_58) (by decide) (by decide) ?_
      show SS p e below s₁ m 62 #[vI p1, vI p2, vI (p1 &&& (223 : Int32))] [(.int 1)] _
      exact retN X0 hx (t := .boolean) Bd.returns (by simp) (hb hby d32_62) hr
     ·show Q_rmCI Z p1 p2 h0 n0 _ s₁.heap _
      rw [e0]
      exact ⟨by rw [ciF, if_neg hc101, if_neg hc103, if_neg (fun q => hc105 q.1), if_pos hc115], N0, rfl⟩
    ·skip
     obtain ⟨fs, hr, hrun, hended, hW, hsame⟩ := X0.leave (v := some (.int 0)) (nvr Bd.returns)
     refine ⟨_, _, pre116 _ ?_, hrun, hended, _, _, rfl, ?_, ⟨_, rfl⟩, hW, hsame.mono (by decide) (by decide)⟩
     ·skip
      show SS p e below s₁ m 54 #[vI p1, vI p2, vI (p1 &&& (223 : Int32))] [(.int (p2 &&& (223 : Int32))), (.int (p1 &&& (223 : Int32)))] _
      refine XS.icmpYes X0.here hx rfl (pc0 := 54) (pc' := 61) rfl (hb hby d32_54) rfl (feq hc115).2 (by decide) (by decide) ?_
      refine XS.iconst X0.here hx rfl (hb hby d32_61) ?_
      show SS p e below s₁ m 62 #[vI p1, vI p2, vI (p1 &&& (223 : Int32))] [(.int 0)] _
      exact retN X0 hx (t := .boolean) Bd.returns (by simp) (hb hby d32_62) hr
     ·show Q_rmCI Z p1 p2 h0 n0 _ s₁.heap _
      rw [e0]
      exact ⟨by rw [ciF, if_neg hc101, if_neg hc103, if_neg (fun q => hc105 q.1), if_neg hc115], N0, rfl⟩
theorem d31_6 : DK cD30 6 (.iload_n 1) 1 := by decide +kernel
theorem d31_7 : DK cD30 7 (.iload 5) 2 := by decide +kernel
theorem d31_9 : DK cD30 9 (.if_icmp .ge 34) 3 := by decide +kernel
theorem d31_12 : DK cD30 12 (.aload_n 0) 1 := by decide +kernel
theorem d31_13 : DK cD30 13 (.iload_n 1) 1 := by decide +kernel
theorem d31_14 : DK cD30 14 (.iinc 1 1) 3 := by decide +kernel
theorem d31_17 : DK cD30 17 (.baload) 1 := by decide +kernel
theorem d31_18 : DK cD30 18 (.istore 6) 2 := by decide +kernel
theorem d31_20 : DK cD30 20 (.aload_n 2) 1 := by decide +kernel
theorem d31_21 : DK cD30 21 (.iload_n 3) 1 := by decide +kernel
theorem d31_22 : DK cD30 22 (.iinc 3 1) 3 := by decide +kernel
theorem d31_25 : DK cD30 25 (.baload) 1 := by decide +kernel
theorem d31_26 : DK cD30 26 (.istore 7) 2 := by decide +kernel
theorem d31_28 : DK cD30 28 (.iload 6) 2 := by decide +kernel
theorem d31_30 : DK cD30 30 (.iload 7) 2 := by decide +kernel
theorem d31_32 : DK cD30 32 (.invokestatic 153) 3 := by decide +kernel
theorem d31_35 : DK cD30 35 (.ifCond .eq 6) 3 := by decide +kernel
theorem d31_38 : DK cD30 38 (.goto (-32)) 3 := by decide +kernel
theorem os_tnCI_1 {z0 : Value} {z1 : Value} {z2 : Value} {z3 : Value} {z4 : Value} {z5 : Value} {s6 : Slot} {s7 : Slot} {v : Int32} (h : One s6) : storeLocals #[.val z0, .val z1, .val z2, .val z3, .val z4, .val z5, s6, s7] 6 (.int v) = some #[.val z0, .val z1, .val z2, .val z3, .val z4, .val z5, vI v, s7] := by
 rcases h with rfl | ⟨w, rfl, hw⟩
 ·rfl
 ·cases w <;> first | rfl | (simp [Value.category] at hw)
theorem os_tnCI_2 {z0 : Value} {z1 : Value} {z2 : Value} {z3 : Value} {z4 : Value} {z5 : Value} {z6 : Value} {s7 : Slot} {v : Int32} (h : One s7) : storeLocals #[.val z0, .val z1, .val z2, .val z3, .val z4, .val z5, .val z6, s7] 7 (.int v) = some #[.val z0, .val z1, .val z2, .val z3, .val z4, .val z5, .val z6, vI v] := by
 rcases h with rfl | ⟨w, rfl, hw⟩
 ·rfl
 ·cases w <;> first | rfl | (simp [Value.category] at hw)
theorem pd_23 : parseMethodDescriptor "(BB)Z" = some ⟨[.byte, .byte], some .boolean⟩ := by decide +kernel
theorem tnCI {p : Program} {l : Launch} {e : Env} {s : State} {m : MethodId} {args : Array Value} {below : List Frame} {meth : Method} {c : Code} {T0 : State} {locs : List Loc} {Z : State} {a0 : Array Value} {h0 : Heap} {n0 : Nat} (a1 a3 : Addr) (bs : List Int32) (k1 k3 : ClassId) (j : Nat) (s6 s7 : Slot)
  (X0 : Stand p l e (Rm 1 0 0 24) s m args below meth c T0 locs 0 0) (hx : p.tables.exec = Jvm.exec) (hZ : Z.Warmed39 s.vm) (hw : HW a0 Z) (hby : c.code = jdk_43_method_30_code) (hml : c.maxLocals = 8) (hown : s.vm.findClass "java/lang/StringLatin1" = some m.cls) (e0 : T0.heap = h0) (O0 : Old Z n0 h0) (N0 : Fr n0 locs) (V1 : Arv Z h0 a1 k1 .byte (33 : Int32) (bs.map Value.int) (.int 0)) (V3 : Arv Z h0 a3 k3 .byte (33 : Int32) (media.map Value.int) (.int 0)) (hl : bs.length = 33) (hj : j < 33) (hci : (ciF (bs.getD j 0) (media.getD j 0)) = (1 : Int32)) (hs6 : One s6) (hs7 : One s7) :
  ∃ (T' : State) (h' : Heap) (L' : List Loc), Stand p l e (Rm 1 0 0 24) s m args below meth c T' L' 0 0 ∧ T'.heap = h' ∧ Fr n0 L' ∧ h' = h0 ∧ ∀ target, SS p e below T' m 6 #[vR a1, vI (Int32.ofNat (j + 1)), vR a3, vI (Int32.ofNat (j + 1)), vI 33, vI 33, vI (bs.getD j 0), vI (media.getD j 0)] [] target → SS p e below T0 m 6 #[vR a1, vI (Int32.ofNat j), vR a3, vI (Int32.ofNat j), vI 33, vI 33, s6, s7] [] target := by
 have hn0 : n0 ≤ h0.size := O0.1 ▸ O0.2.1
 have pre0 : ∀ t, SS p e below T0 m 6 #[vR a1, vI (Int32.ofNat j), vR a3, vI (Int32.ofNat j), vI 33, vI 33, s6, s7] [] t → SS p e below T0 m 6 #[vR a1, vI (Int32.ofNat j), vR a3, vI (Int32.ofNat j), vI 33, vI 33, s6, s7] [] t := fun t k => k
 obtain ⟨cl101, Ar101, q101, S101, Nn101, H101, G101⟩ := id V1
 have hat101 : cl101.slots[((Int32.ofNat j)).toNatClampNeg]? = some (.int (bs.getD j 0)) := (Has.at H101 (inb_of S101 ⟨own_nn (by omega), (own_lt (j := 33) (by omega) (by decide)).mpr (by omega)⟩) (own_getD _ (by omega) (by omega)))
 obtain ⟨cl102, Ar102, q102, S102, Nn102, H102, G102⟩ := id V3
 have hat102 : cl102.slots[((Int32.ofNat j)).toNatClampNeg]? = some (.int (media.getD j 0)) := (Has.at H102 (inb_of S102 ⟨own_nn (by omega), (own_lt (j := 33) (by omega) (by decide)).mpr (by omega)⟩) (own_getD _ (by rw [own_medlen]; omega) (by omega)))
 obtain ⟨_, _, ⟨T103, L103, k103, n103⟩, -, X103, ⟨Lc103, hQ103, l103, y103, z103⟩, st103⟩ := Jvm.LawKit.callS X0 hx (y := mN29) hown (mvT hZ (tw hw 140 rfl)) (mvT hZ (tw hw 141 rfl)) (mvT hZ (tw hw 111 rfl)) (mvT hZ (tw hw 142 rfl)) (by decide) (backOf (W := 0) (rmCI l Z a0 hw [] (bs.getD j 0) (media.getD j 0)  h0 n0 O0 ) hZ (tw hw 142 rfl) (tw hw 111 rfl) (by decide) (by decide)) (g := (mkF m 32 #[vR a1, vI ((Int32.ofNat j) + (1 : Int32)), vR a3, vI ((Int32.ofNat j) + (1 : Int32)), vI 33, vI 33, vI (bs.getD j 0), vI (media.getD j 0)] [(.int (media.getD j 0)), (.int (bs.getD j 0))])) rfl (by rw [hml]; rfl) (argsL := [(.int (bs.getD j 0)), (.int (media.getD j 0))]) (rest := []) (lenOf pd_23 rfl) rfl (wL _) (hb hby d31_32) (fun _ _ => ⟨rfl, e0, (by decide : 0 + 0 ≤ _), (by decide : 0 + 0 ≤ _)⟩)
 dsimp only [Pt.U, Pt.locs, Pt.cells, Pt.slots] at X103 l103 y103 z103 st103 hQ103
 rw [l103] at X103
 subst y103 z103
 obtain ⟨rfl, N103q, H103⟩ := hQ103
 have N103 := Fr.app N0 N103q
 refine ⟨T103, h0, _, X103, H103, N103, rfl, fun target kt => pre0 _ ?_⟩
 show SS p e below T0 m 6 #[vR a1, vI (Int32.ofNat j), vR a3, vI (Int32.ofNat j), vI 33, vI 33, s6, s7] [] _
 refine XS.iloadN X0.here hx rfl (hb hby d31_6) rfl ?_
 refine XS.iload X0.here hx rfl (hb hby d31_7) rfl ?_
 refine XS.icmpNo X0.here hx rfl (hb hby d31_9) rfl (tlt ((own_lt (j := 33) (by omega) (by decide)).mpr hj : (Int32.ofNat j) < (33 : Int32))).2.1 ?_
 refine XS.aloadN X0.here hx rfl (hb hby d31_12) rfl rfl ?_
 refine XS.iloadN X0.here hx rfl (hb hby d31_13) rfl ?_
 refine XS.iinc X0.here hx rfl (hb hby d31_14) rfl (l' := #[vR a1, vI ((Int32.ofNat j) + (1 : Int32)), vR a3, vI (Int32.ofNat j), vI 33, vI 33, s6, s7]) rfl ?_
 show SS p e below T0 m 17 #[vR a1, vI ((Int32.ofNat j) + (1 : Int32)), vR a3, vI (Int32.ofNat j), vI 33, vI 33, s6, s7] [(.int (Int32.ofNat j)), (.ref a1)] _
 refine X0.baloadBytes hx (j := (Int32.ofNat j)) (v := (.int (bs.getD j 0))) (by rw [e0]; exact Ar101.1) (State.isArrayOf_alike hZ.alike Ar101.2.1) Ar101.2.2 (inb_of S101 ⟨own_nn (by omega), (own_lt (j := 33) (by omega) (by decide)).mpr (by omega)⟩) hat101 (g := (mkF m 17 #[vR a1, vI ((Int32.ofNat j) + (1 : Int32)), vR a3, vI (Int32.ofNat j), vI 33, vI 33, s6, s7] [(.int (Int32.ofNat j)), (.ref a1)])) rfl rfl (hb hby d31_17) _ ?_
 refine XS.istore X0.here hx rfl (hb hby d31_18) rfl (l' := #[vR a1, vI ((Int32.ofNat j) + (1 : Int32)), vR a3, vI (Int32.ofNat j), vI 33, vI 33, vI (bs.getD j 0), s7]) (os_tnCI_1 hs6) ?_
 refine XS.aloadN X0.here hx rfl (hb hby d31_20) rfl rfl ?_
 refine XS.iloadN X0.here hx rfl (hb hby d31_21) rfl ?_
 refine XS.iinc X0.here hx rfl (hb hby d31_22) rfl (l' := #[vR a1, vI ((Int32.ofNat j) + (1 : Int32)), vR a3, vI ((Int32.ofNat j) + (1 : Int32)), vI 33, vI 33, vI (bs.getD j 0), s7]) rfl ?_
 show SS p e below T0 m 25 #[vR a1, vI ((Int32.ofNat j) + (1 : Int32)), vR a3, vI ((Int32.ofNat j) + (1 : Int32)), vI 33, vI 33, vI (bs.getD j 0), s7] [(.int (Int32.ofNat j)), (.ref a3)] _
 refine X0.baloadBytes hx (j := (Int32.ofNat j)) (v := (.int (media.getD j 0))) (by rw [e0]; exact Ar102.1) (State.isArrayOf_alike hZ.alike Ar102.2.1) Ar102.2.2 (inb_of S102 ⟨own_nn (by omega), (own_lt (j := 33) (by omega) (by decide)).mpr (by omega)⟩) hat102 (g := (mkF m 25 #[vR a1, vI ((Int32.ofNat j) + (1 : Int32)), vR a3, vI ((Int32.ofNat j) + (1 : Int32)), vI 33, vI 33, vI (bs.getD j 0), s7] [(.int (Int32.ofNat j)), (.ref a3)])) rfl rfl (hb hby d31_25) _ ?_
 refine XS.istore X0.here hx rfl (hb hby d31_26) rfl (l' := #[vR a1, vI ((Int32.ofNat j) + (1 : Int32)), vR a3, vI ((Int32.ofNat j) + (1 : Int32)), vI 33, vI 33, vI (bs.getD j 0), vI (media.getD j 0)]) (os_tnCI_2 hs7) ?_
 refine XS.iload X0.here hx rfl (hb hby d31_28) rfl ?_
 refine XS.iload X0.here hx rfl (hb hby d31_30) rfl ?_
 show SS p e below T0 m 32 #[vR a1, vI ((Int32.ofNat j) + (1 : Int32)), vR a3, vI ((Int32.ofNat j) + (1 : Int32)), vI 33, vI 33, vI (bs.getD j 0), vI (media.getD j 0)] [(.int (media.getD j 0)), (.int (bs.getD j 0))] _
 refine st103 _ ?_
 refine XS.ifNo X103.here hx rfl (hb hby d31_35) rfl ((if0 _ _).trans (feq (by rw [hci]; decide : ¬ ((ciF (bs.getD j 0) (media.getD j 0)) = (0 : Int32)))).1) ?_
 refine XS.goto X103.here hx rfl (pc0 := 38) (pc' := 6) rfl (hb hby d31_38) (by decide) (by decide) ?_
 show SS p e below T103 m 6 #[vR a1, vI ((Int32.ofNat j) + (1 : Int32)), vR a3, vI ((Int32.ofNat j) + (1 : Int32)), vI 33, vI 33, vI (bs.getD j 0), vI (media.getD j 0)] [] _
 rw [own_succ j]
 exact kt
theorem lpCI {p : Program} {l : Launch} {e : Env} {s : State} {m : MethodId} {args : Array Value} {below : List Frame} {meth : Method} {c : Code} {T0 : State} {locs : List Loc} {Z : State} {a0 : Array Value} {h0 : Heap} {n0 : Nat} (a1 a3 : Addr) (bs : List Int32) (k1 k3 : ClassId) (M : Nat) (X0 : Stand p l e (Rm 1 0 0 24) s m args below meth c T0 locs 0 0) (hx : p.tables.exec = Jvm.exec) (hZ : Z.Warmed39 s.vm) (hw : HW a0 Z) (hby : c.code = jdk_43_method_30_code) (hml : c.maxLocals = 8) (hown : s.vm.findClass "java/lang/StringLatin1" = some m.cls) (e0 : T0.heap = h0) (O0 : Old Z n0 h0) (N0 : Fr n0 locs) (V1 : Arv Z h0 a1 k1 .byte (33 : Int32) (bs.map Value.int) (.int 0)) (V3 : Arv Z h0 a3 k3 .byte (33 : Int32) (media.map Value.int) (.int 0)) (hl : bs.length = 33) (hM : M ≤ 33) (hpre : ∀ j, j < M → (ciF (bs.getD j 0) (media.getD j 0)) = (1 : Int32)) :
  ∀ j, j ≤ M → ∃ (T' : State) (L' : List Loc) (s6 s7 : Slot), Stand p l e (Rm 1 0 0 24) s m args below meth c T' L' 0 0 ∧ T'.heap = h0 ∧ Fr n0 L' ∧ One s6 ∧ One s7 ∧ ∀ target, SS p e below T' m 6 #[vR a1, vI (Int32.ofNat j), vR a3, vI (Int32.ofNat j), vI 33, vI 33, s6, s7] [] target → SS p e below T0 m 6 #[vR a1, vI (Int32.ofNat 0), vR a3, vI (Int32.ofNat 0), vI 33, vI 33, .unset, .unset] [] target := by
 intro j
 induction j with
 | zero => exact fun _ => ⟨T0, locs, .unset, .unset, X0, e0, N0, One.u, One.u, fun _ k => k⟩
 | succ j ih =>
  intro hj
  obtain ⟨T, L, s6, s7, X, e1, N, hs6, hs7, st⟩ := ih (by omega)
  obtain ⟨T2, h2, L2, X2, e2, N2, rfl, st2⟩ := tnCI a1 a3 bs k1 k3 j s6 s7 X hx hZ hw hby hml hown e1 O0 N V1 V3 hl (by omega) (hpre j (by omega)) hs6 hs7
  exact ⟨T2, L2, _, _, X2, e2, N2, One.val rfl, One.val rfl, fun t k => st _ (st2 _ k)⟩
theorem d31_0 : DK cD30 0 (.iload_n 1) 1 := by decide +kernel
theorem d31_1 : DK cD30 1 (.iload 4) 2 := by decide +kernel
theorem d31_3 : DK cD30 3 (.iadd) 1 := by decide +kernel
theorem d31_4 : DK cD30 4 (.istore 5) 2 := by decide +kernel
theorem d31_43 : DK cD30 43 (.iconst 1) 1 := by decide +kernel
theorem d31_44 : DK cD30 44 (.ireturn) 1 := by decide +kernel
theorem ef_rmCIY (m : MethodId) (y0 : Addr) (y1 : Addr) : entryFrame m #[(.ref y0), (.int 0), (.ref y1), (.int 0), (.int 33)] 8 = (mkF m 0 #[vR y0, vI 0, vR y1, vI 0, vI 33, .unset, .unset, .unset] []) := by first | (simp [entryFrame, mkF, argsToLocals, Value.category]; done) | rfl
def Q_rmCIY (Z : State) (a1 : Addr) (a3 : Addr) (bs : List Int32) (k1 k3 : ClassId) (h0 : Heap) (n0 : Nat) (v : Option Value) (h : Heap) (L : List Loc) : Prop := v = some (.int 1) ∧ Fr n0 L ∧ h = h0
theorem rmCIY (l : Launch) (Z : State) (a0 : Array Value) (hw : HW a0 Z) (ws : List Jvm.Cond) (a1 : Addr) (a3 : Addr) (bs : List Int32) (k1 k3 : ClassId) (h0 : Heap) (n0 : Nat) (O0 : Old Z n0 h0) (V1 : Arv Z h0 a1 k1 .byte (33 : Int32) (bs.map Value.int) (.int 0)) (V3 : Arv Z h0 a3 k3 .byte (33 : Int32) (media.map Value.int) (.int 0)) (hl : bs.length = 33) (hpre : ∀ j, j < 33 → (ciF (bs.getD j 0) (media.getD j 0)) = (1 : Int32)) :
  MF l mN30 jdk_43_method_30_code 8 (some .boolean) ws (Rm 1 0 0 24) Z #[(.ref a1), (.int 0), (.ref a3), (.int 0), (.int 33)] h0 (Q_rmCIY Z a1 a3 bs k1 k3 h0 n0) := by
 refine MetFree.of_bodySF (plainFor_of_name pn_3) hisR ?_
 intro p e s m args below meth c s₁ Bd hml0 hP hK
 obtain ⟨rfl, hZ, hh⟩ := hP
 have hx := Bd.exec
 have hby := Bd.bytes
 have hml : c.maxLocals = 8 := hml0
 have hown : s.vm.findClass "java/lang/StringLatin1" = some m.cls := findClass_of_methodNamed Bd.named
 have X0 : Stand p l e (Rm 1 0 0 24) s m #[(.ref a1), (.int 0), (.ref a3), (.int 0), (.int 33)] below meth c s₁ [] 0 0 := Stand.of_body Bd
 have e0 : s₁.heap = h0 := by rw [← hh, Bd.state]; rfl
 have N0 := Fr.nil n0
 have hn0 : n0 ≤ h0.size := O0.1 ▸ O0.2.1
 have pre0 : ∀ t, SS p e below s₁ m 0 #[vR a1, vI 0, vR a3, vI 0, vI 33, .unset, .unset, .unset] [] t → SE p e below s₁ m #[(.ref a1), (.int 0), (.ref a3), (.int 0), (.int 33)] 8 t := fun t k => castTop (ef_rmCIY m a1 a3) k
 have hr101 : ((0 : Int32) + (33 : Int32)) = (33 : Int32) := by decide
 have pre102 : ∀ t, SS p e below s₁ m 6 #[vR a1, vI 0, vR a3, vI 0, vI 33, vI 33, .unset, .unset] [] t → SE p e below s₁ m #[(.ref a1), (.int 0), (.ref a3), (.int 0), (.int 33)] 8 t := by
  intro t kt
  refine pre0 _ ?_
  show SS p e below s₁ m 0 #[vR a1, vI 0, vR a3, vI 0, vI 33, .unset, .unset, .unset] [] _
  refine XS.iloadN X0.here hx rfl (hb hby d31_0) rfl ?_
  refine XS.iload X0.here hx rfl (hb hby d31_1) rfl ?_
  refine XS.iadd X0.here hx rfl (hb hby d31_3) rfl ?_
  refine XS.istore X0.here hx rfl (hb hby d31_4) rfl (l' := #[vR a1, vI 0, vR a3, vI 0, vI 33, vI ((0 : Int32) + (33 : Int32)), .unset, .unset]) rfl ?_
  show SS p e below s₁ m 6 #[vR a1, vI 0, vR a3, vI 0, vI 33, vI ((0 : Int32) + (33 : Int32)), .unset, .unset] [] _
  rw [hr101]
  exact kt
 obtain ⟨T103, L103, s6, s7, X103, e103, N103, hs6, hs7, st103⟩ := lpCI a1 a3 bs k1 k3 33 X0 hx hZ hw hby hml hown e0 O0 N0 V1 V3 hl (by omega) hpre 33 (Nat.le_refl _)
 obtain ⟨fs, hr, hrun, hended, hW, hsame⟩ := X103.leave (v := some (.int 1)) (nvr Bd.returns)
 refine ⟨_, _, pre102 _ ?_, hrun, hended, _, _, rfl, ?_, ⟨_, rfl⟩, hW, hsame.mono (by decide) (by decide)⟩
 ·skip
  refine st103 _ ?_
  show SS p e below T103 m 6 #[vR a1, vI (Int32.ofNat 33), vR a3, vI (Int32.ofNat 33), vI 33, vI 33, s6, s7] [] _
  refine XS.iloadN X103.here hx rfl (hb hby d31_6) rfl ?_
  refine XS.iload X103.here hx rfl (hb hby d31_7) rfl ?_
  refine XS.icmpYes X103.here hx rfl (pc0 := 9) (pc' := 43) rfl (hb hby d31_9) rfl (flt (fun q => absurd q (by decide) : ¬ ((Int32.ofNat 33) < (33 : Int32)))).2.1 (by decide) (by decide) ?_
  refine XS.iconst X103.here hx rfl (hb hby d31_43) ?_
  show SS p e below T103 m 44 #[vR a1, vI (Int32.ofNat 33), vR a3, vI (Int32.ofNat 33), vI 33, vI 33, s6, s7] [(.int 1)] _
  exact retN X103 hx (t := .boolean) Bd.returns (by simp) (hb hby d31_44) hr
 ·show Q_rmCIY Z a1 a3 bs k1 k3 h0 n0 _ T103.heap _
  rw [e103]
  exact ⟨rfl, N103, rfl⟩
theorem d31_41 : DK cD30 41 (.iconst 0) 1 := by decide +kernel
theorem d31_42 : DK cD30 42 (.ireturn) 1 := by decide +kernel
theorem os_rmCIN_1 {z0 : Value} {z1 : Value} {z2 : Value} {z3 : Value} {z4 : Value} {z5 : Value} {s6 : Slot} {s7 : Slot} {v : Int32} (h : One s6) : storeLocals #[.val z0, .val z1, .val z2, .val z3, .val z4, .val z5, s6, s7] 6 (.int v) = some #[.val z0, .val z1, .val z2, .val z3, .val z4, .val z5, vI v, s7] := by
 rcases h with rfl | ⟨w, rfl, hw⟩
 ·rfl
 ·cases w <;> first | rfl | (simp [Value.category] at hw)
theorem os_rmCIN_2 {z0 : Value} {z1 : Value} {z2 : Value} {z3 : Value} {z4 : Value} {z5 : Value} {z6 : Value} {s7 : Slot} {v : Int32} (h : One s7) : storeLocals #[.val z0, .val z1, .val z2, .val z3, .val z4, .val z5, .val z6, s7] 7 (.int v) = some #[.val z0, .val z1, .val z2, .val z3, .val z4, .val z5, .val z6, vI v] := by
 rcases h with rfl | ⟨w, rfl, hw⟩
 ·rfl
 ·cases w <;> first | rfl | (simp [Value.category] at hw)
theorem ef_rmCIN (m : MethodId) (y0 : Addr) (y1 : Addr) : entryFrame m #[(.ref y0), (.int 0), (.ref y1), (.int 0), (.int 33)] 8 = (mkF m 0 #[vR y0, vI 0, vR y1, vI 0, vI 33, .unset, .unset, .unset] []) := by first | (simp [entryFrame, mkF, argsToLocals, Value.category]; done) | rfl
def Q_rmCIN (Z : State) (a1 : Addr) (a3 : Addr) (bs : List Int32) (k1 k3 : ClassId) (m1 : Nat) (h0 : Heap) (n0 : Nat) (v : Option Value) (h : Heap) (L : List Loc) : Prop := v = some (.int 0) ∧ Fr n0 L ∧ h = h0
theorem rmCIN (l : Launch) (Z : State) (a0 : Array Value) (hw : HW a0 Z) (ws : List Jvm.Cond) (a1 : Addr) (a3 : Addr) (bs : List Int32) (k1 k3 : ClassId) (m1 : Nat) (h0 : Heap) (n0 : Nat) (O0 : Old Z n0 h0) (V1 : Arv Z h0 a1 k1 .byte (33 : Int32) (bs.map Value.int) (.int 0)) (V3 : Arv Z h0 a3 k3 .byte (33 : Int32) (media.map Value.int) (.int 0)) (hl : bs.length = 33) (hm : m1 < 33) (hpre : ∀ j, j < m1 → (ciF (bs.getD j 0) (media.getD j 0)) = (1 : Int32)) (hend : (ciF (bs.getD m1 0) (media.getD m1 0)) = (0 : Int32)) :
  MF l mN30 jdk_43_method_30_code 8 (some .boolean) ws (Rm 1 0 0 24) Z #[(.ref a1), (.int 0), (.ref a3), (.int 0), (.int 33)] h0 (Q_rmCIN Z a1 a3 bs k1 k3 m1 h0 n0) := by
 refine MetFree.of_bodySF (plainFor_of_name pn_3) hisR ?_
 intro p e s m args below meth c s₁ Bd hml0 hP hK
 obtain ⟨rfl, hZ, hh⟩ := hP
 have hx := Bd.exec
 have hby := Bd.bytes
 have hml : c.maxLocals = 8 := hml0
 have hown : s.vm.findClass "java/lang/StringLatin1" = some m.cls := findClass_of_methodNamed Bd.named
 have X0 : Stand p l e (Rm 1 0 0 24) s m #[(.ref a1), (.int 0), (.ref a3), (.int 0), (.int 33)] below meth c s₁ [] 0 0 := Stand.of_body Bd
 have e0 : s₁.heap = h0 := by rw [← hh, Bd.state]; rfl
 have N0 := Fr.nil n0
 have hn0 : n0 ≤ h0.size := O0.1 ▸ O0.2.1
 have pre0 : ∀ t, SS p e below s₁ m 0 #[vR a1, vI 0, vR a3, vI 0, vI 33, .unset, .unset, .unset] [] t → SE p e below s₁ m #[(.ref a1), (.int 0), (.ref a3), (.int 0), (.int 33)] 8 t := fun t k => castTop (ef_rmCIN m a1 a3) k
 have hr101 : ((0 : Int32) + (33 : Int32)) = (33 : Int32) := by decide
 have pre102 : ∀ t, SS p e below s₁ m 6 #[vR a1, vI 0, vR a3, vI 0, vI 33, vI 33, .unset, .unset] [] t → SE p e below s₁ m #[(.ref a1), (.int 0), (.ref a3), (.int 0), (.int 33)] 8 t := by
  intro t kt
  refine pre0 _ ?_
  show SS p e below s₁ m 0 #[vR a1, vI 0, vR a3, vI 0, vI 33, .unset, .unset, .unset] [] _
  refine XS.iloadN X0.here hx rfl (hb hby d31_0) rfl ?_
  refine XS.iload X0.here hx rfl (hb hby d31_1) rfl ?_
  refine XS.iadd X0.here hx rfl (hb hby d31_3) rfl ?_
  refine XS.istore X0.here hx rfl (hb hby d31_4) rfl (l' := #[vR a1, vI 0, vR a3, vI 0, vI 33, vI ((0 : Int32) + (33 : Int32)), .unset, .unset]) rfl ?_
  show SS p e below s₁ m 6 #[vR a1, vI 0, vR a3, vI 0, vI 33, vI ((0 : Int32) + (33 : Int32)), .unset, .unset] [] _
  rw [hr101]
  exact kt
 obtain ⟨T103, L103, s6, s7, X103, e103, N103, hs6, hs7, st103⟩ := lpCI a1 a3 bs k1 k3 m1 X0 hx hZ hw hby hml hown e0 O0 N0 V1 V3 hl (by omega) hpre m1 (Nat.le_refl _)
 obtain ⟨cl104, Ar104, q104, S104, Nn104, H104, G104⟩ := id V1
 have hat104 : cl104.slots[((Int32.ofNat m1)).toNatClampNeg]? = some (.int (bs.getD m1 0)) := (Has.at H104 (inb_of S104 ⟨own_nn (by omega), (own_lt (j := 33) (by omega) (by decide)).mpr (by omega)⟩) (own_getD _ (by omega) (by omega)))
 obtain ⟨cl105, Ar105, q105, S105, Nn105, H105, G105⟩ := id V3
 have hat105 : cl105.slots[((Int32.ofNat m1)).toNatClampNeg]? = some (.int (media.getD m1 0)) := (Has.at H105 (inb_of S105 ⟨own_nn (by omega), (own_lt (j := 33) (by omega) (by decide)).mpr (by omega)⟩) (own_getD _ (by rw [own_medlen]; omega) (by omega)))
 obtain ⟨_, _, ⟨T106, L106, k106, n106⟩, -, X106, ⟨Lc106, hQ106, l106, y106, z106⟩, st106⟩ := Jvm.LawKit.callS X103 hx (y := mN29) hown (mvT hZ (tw hw 140 rfl)) (mvT hZ (tw hw 141 rfl)) (mvT hZ (tw hw 111 rfl)) (mvT hZ (tw hw 142 rfl)) (by decide) (backOf (W := 0) (rmCI l Z a0 hw [] (bs.getD m1 0) (media.getD m1 0)  h0 n0 O0 ) hZ (tw hw 142 rfl) (tw hw 111 rfl) (by decide) (by decide)) (g := (mkF m 32 #[vR a1, vI ((Int32.ofNat m1) + (1 : Int32)), vR a3, vI ((Int32.ofNat m1) + (1 : Int32)), vI 33, vI 33, vI (bs.getD m1 0), vI (media.getD m1 0)] [(.int (media.getD m1 0)), (.int (bs.getD m1 0))])) rfl (by rw [hml]; rfl) (argsL := [(.int (bs.getD m1 0)), (.int (media.getD m1 0))]) (rest := []) (lenOf pd_23 rfl) rfl (wL _) (hb hby d31_32) (fun _ _ => ⟨rfl, e103, (by decide : 0 + 0 ≤ _), (by decide : 0 + 0 ≤ _)⟩)
 dsimp only [Pt.U, Pt.locs, Pt.cells, Pt.slots] at X106 l106 y106 z106 st106 hQ106
 rw [l106] at X106
 subst y106 z106
 obtain ⟨rfl, N106q, H106⟩ := hQ106
 have N106 := Fr.app N103 N106q
 obtain ⟨fs, hr, hrun, hended, hW, hsame⟩ := X106.leave (v := some (.int 0)) (nvr Bd.returns)
 refine ⟨_, _, pre102 _ ?_, hrun, hended, _, _, rfl, ?_, ⟨_, rfl⟩, hW, hsame.mono (by decide) (by decide)⟩
 ·skip
  refine st103 _ ?_
  show SS p e below T103 m 6 #[vR a1, vI (Int32.ofNat m1), vR a3, vI (Int32.ofNat m1), vI 33, vI 33, s6, s7] [] _
  refine XS.iloadN X103.here hx rfl (hb hby d31_6) rfl ?_
  refine XS.iload X103.here hx rfl (hb hby d31_7) rfl ?_
  refine XS.icmpNo X103.here hx rfl (hb hby d31_9) rfl (tlt ((own_lt (j := 33) (by omega) (by decide)).mpr hm : (Int32.ofNat m1) < (33 : Int32))).2.1 ?_
  refine XS.aloadN X103.here hx rfl (hb hby d31_12) rfl rfl ?_
  refine XS.iloadN X103.here hx rfl (hb hby d31_13) rfl ?_
  refine XS.iinc X103.here hx rfl (hb hby d31_14) rfl (l' := #[vR a1, vI ((Int32.ofNat m1) + (1 : Int32)), vR a3, vI (Int32.ofNat m1), vI 33, vI 33, s6, s7]) rfl ?_
  show SS p e below T103 m 17 #[vR a1, vI ((Int32.ofNat m1) + (1 : Int32)), vR a3, vI (Int32.ofNat m1), vI 33, vI 33, s6, s7] [(.int (Int32.ofNat m1)), (.ref a1)] _
  refine X103.baloadBytes hx (j := (Int32.ofNat m1)) (v := (.int (bs.getD m1 0))) (by rw [e103]; exact Ar104.1) (State.isArrayOf_alike hZ.alike Ar104.2.1) Ar104.2.2 (inb_of S104 ⟨own_nn (by omega), (own_lt (j := 33) (by omega) (by decide)).mpr (by omega)⟩) hat104 (g := (mkF m 17 #[vR a1, vI ((Int32.ofNat m1) + (1 : Int32)), vR a3, vI (Int32.ofNat m1), vI 33, vI 33, s6, s7] [(.int (Int32.ofNat m1)), (.ref a1)])) rfl rfl (hb hby d31_17) _ ?_
  refine XS.istore X103.here hx rfl (hb hby d31_18) rfl (l' := #[vR a1, vI ((Int32.ofNat m1) + (1 : Int32)), vR a3, vI (Int32.ofNat m1), vI 33, vI 33, vI (bs.getD m1 0), s7]) (os_rmCIN_1 hs6) ?_
  refine XS.aloadN X103.here hx rfl (hb hby d31_20) rfl rfl ?_
  refine XS.iloadN X103.here hx rfl (hb hby d31_21) rfl ?_
  refine XS.iinc X103.here hx rfl (hb hby d31_22) rfl (l' := #[vR a1, vI ((Int32.ofNat m1) + (1 : Int32)), vR a3, vI ((Int32.ofNat m1) + (1 : Int32)), vI 33, vI 33, vI (bs.getD m1 0), s7]) rfl ?_
  show SS p e below T103 m 25 #[vR a1, vI ((Int32.ofNat m1) + (1 : Int32)), vR a3, vI ((Int32.ofNat m1) + (1 : Int32)), vI 33, vI 33, vI (bs.getD m1 0), s7] [(.int (Int32.ofNat m1)), (.ref a3)] _
  refine X103.baloadBytes hx (j := (Int32.ofNat m1)) (v := (.int (media.getD m1 0))) (by rw [e103]; exact Ar105.1) (State.isArrayOf_alike hZ.alike Ar105.2.1) Ar105.2.2 (inb_of S105 ⟨own_nn (by omega), (own_lt (j := 33) (by omega) (by decide)).mpr (by omega)⟩) hat105 (g := (mkF m 25 #[vR a1, vI ((Int32.ofNat m1) + (1 : Int32)), vR a3, vI ((Int32.ofNat m1) + (1 : Int32)), vI 33, vI 33, vI (bs.getD m1 0), s7] [(.int (Int32.ofNat m1)), (.ref a3)])) rfl rfl (hb hby d31_25) _ ?_
  refine XS.istore X103.here hx rfl (hb hby d31_26) rfl (l' := #[vR a1, vI ((Int32.ofNat m1) + (1 : Int32)), vR a3, vI ((Int32.ofNat m1) + (1 : Int32)), vI 33, vI 33, vI (bs.getD m1 0), vI (media.getD m1 0)]) (os_rmCIN_2 hs7) ?_
  refine XS.iload X103.here hx rfl (hb hby d31_28) rfl ?_
  refine XS.iload X103.here hx rfl (hb hby d31_30) rfl ?_
  show SS p e below T103 m 32 #[vR a1, vI ((Int32.ofNat m1) + (1 : Int32)), vR a3, vI ((Int32.ofNat m1) + (1 : Int32)), vI 33, vI 33, vI (bs.getD m1 0), vI (media.getD m1 0)] [(.int (media.getD m1 0)), (.int (bs.getD m1 0))] _
  refine st106 _ ?_
  refine XS.ifYes X106.here hx rfl (pc0 := 35) (pc' := 41) rfl (hb hby d31_35) rfl ((if0 _ _).trans (teq (hend : (ciF (bs.getD m1 0) (media.getD m1 0)) = (0 : Int32))).1) (by decide) (by decide) ?_
  refine XS.iconst X106.here hx rfl (hb hby d31_41) ?_
  show SS p e below T106 m 42 #[vR a1, vI ((Int32.ofNat m1) + (1 : Int32)), vR a3, vI ((Int32.ofNat m1) + (1 : Int32)), vI 33, vI 33, vI (bs.getD m1 0), vI (media.getD m1 0)] [(.int 0)] _
  exact retN X106 hx (t := .boolean) Bd.returns (by simp) (hb hby d31_42) hr
 ·show Q_rmCIN Z a1 a3 bs k1 k3 m1 h0 n0 _ T106.heap _
  rw [H106]
  exact ⟨rfl, N106, rfl⟩
theorem own_first {P : Nat → Prop} [DecidablePred P] : ∀ n, (∀ j, j < n → P j) ∨ ∃ m, m < n ∧ (∀ j, j < m → P j) ∧ ¬ P m
 | 0 => Or.inl fun j h => absurd h (Nat.not_lt_zero _)
 | n + 1 => by
  rcases own_first (P := P) n with h | ⟨m, h1, h2, h3⟩
  ·by_cases hp : P n
   ·exact Or.inl fun j hj => (Nat.lt_succ_iff_lt_or_eq.mp hj).elim (h j) (fun e => e ▸ hp)
   ·exact Or.inr ⟨n, Nat.lt_succ_self n, h, hp⟩
  ·exact Or.inr ⟨m, Nat.lt_succ_of_lt h1, h2, h3⟩
theorem own_ci01 (p q : Int32) : ciF p q = 0 ∨ ciF p q = 1 := by
 unfold ciF; split
 ·exact Or.inr rfl
 ·split
  ·exact Or.inl rfl
  ·split
   ·exact Or.inl rfl
   ·split
    ·exact Or.inr rfl
    ·exact Or.inl rfl
def Q_rmRci (Z : State) (a1 a3 : Addr) (bs : List Int32) (k1 k3 : ClassId) (h0 : Heap) (n0 : Nat) (v : Option Value) (h : Heap) (L : List Loc) : Prop := v = some (.int (if allCI bs = true then (1 : Int32) else 0)) ∧ Fr n0 L ∧ h = h0
theorem rmRci (l : Launch) (Z : State) (a0 : Array Value) (hw : HW a0 Z) (ws : List Jvm.Cond) (a1 a3 : Addr) (bs : List Int32) (k1 k3 : ClassId) (h0 : Heap) (n0 : Nat) (O0 : Old Z n0 h0) (V1 : Arv Z h0 a1 k1 .byte (33 : Int32) (bs.map Value.int) (.int 0)) (V3 : Arv Z h0 a3 k3 .byte (33 : Int32) (media.map Value.int) (.int 0)) (hl : bs.length = 33) :
  MF l mN30 jdk_43_method_30_code 8 (some .boolean) ws (Rm 1 0 0 24) Z #[(.ref a1), (.int 0), (.ref a3), (.int 0), (.int 33)] h0 (Q_rmRci Z a1 a3 bs k1 k3 h0 n0) := by
 rcases own_first (P := fun j => (ciF (bs.getD j 0) (media.getD j 0)) = (1 : Int32)) 33 with h | ⟨m1, hm, hpre, hend⟩
 ·unfold Q_rmRci; rw [if_pos ((allCI_iff bs).mpr h)]
  exact rmCIY l Z a0 hw ws a1 a3 bs k1 k3 h0 n0 O0 V1 V3 hl h
 ·unfold Q_rmRci; rw [if_neg (fun q => hend ((allCI_iff bs).mp q m1 hm))]
  exact rmCIN l Z a0 hw ws a1 a3 bs k1 k3 m1 h0 n0 O0 V1 V3 hl hm hpre ((own_ci01 _ _).resolve_right hend)
theorem d30_0 : DK cD31 0 (.iload_n 1) 1 := by decide +kernel
theorem d30_1 : DK cD31 1 (.ifCond .ne 14) 3 := by decide +kernel
theorem d30_15 : DK cD31 15 (.iload 4) 2 := by decide +kernel
theorem d30_17 : DK cD31 17 (.ifCond .lt 38) 3 := by decide +kernel
theorem d30_20 : DK cD31 20 (.iload_n 2) 1 := by decide +kernel
theorem d30_21 : DK cD31 21 (.ifCond .lt 34) 3 := by decide +kernel
theorem d30_24 : DK cD31 24 (.iload_n 2) 1 := by decide +kernel
theorem d30_25 : DK cD31 25 (.i2l) 1 := by decide +kernel
theorem d30_26 : DK cD31 26 (.aload_n 0) 1 := by decide +kernel
theorem d30_27 : DK cD31 27 (.invokevirtual 505) 3 := by decide +kernel
theorem d30_30 : DK cD31 30 (.i2l) 1 := by decide +kernel
theorem d30_31 : DK cD31 31 (.iload 5) 2 := by decide +kernel
theorem d30_33 : DK cD31 33 (.i2l) 1 := by decide +kernel
theorem d30_34 : DK cD31 34 (.lsub) 1 := by decide +kernel
theorem d30_35 : DK cD31 35 (.lcmp) 1 := by decide +kernel
theorem d30_36 : DK cD31 36 (.ifCond .gt 19) 3 := by decide +kernel
theorem d30_39 : DK cD31 39 (.iload 4) 2 := by decide +kernel
theorem d30_41 : DK cD31 41 (.i2l) 1 := by decide +kernel
theorem d30_42 : DK cD31 42 (.aload_n 3) 1 := by decide +kernel
theorem d30_43 : DK cD31 43 (.invokevirtual 505) 3 := by decide +kernel
theorem d30_46 : DK cD31 46 (.i2l) 1 := by decide +kernel
theorem d30_47 : DK cD31 47 (.iload 5) 2 := by decide +kernel
theorem d30_49 : DK cD31 49 (.i2l) 1 := by decide +kernel
theorem d30_50 : DK cD31 50 (.lsub) 1 := by decide +kernel
theorem d30_51 : DK cD31 51 (.lcmp) 1 := by decide +kernel
theorem d30_52 : DK cD31 52 (.ifCond .le 5) 3 := by decide +kernel
theorem d30_57 : DK cD31 57 (.aload_n 0) 1 := by decide +kernel
theorem d30_58 : DK cD31 58 (.getfield 9) 3 := by decide +kernel
theorem d30_61 : DK cD31 61 (.astore 6) 2 := by decide +kernel
theorem d30_63 : DK cD31 63 (.aload_n 3) 1 := by decide +kernel
theorem d30_64 : DK cD31 64 (.getfield 9) 3 := by decide +kernel
theorem d30_67 : DK cD31 67 (.astore 7) 2 := by decide +kernel
theorem d30_69 : DK cD31 69 (.aload_n 0) 1 := by decide +kernel
theorem d30_70 : DK cD31 70 (.invokevirtual 335) 3 := by decide +kernel
theorem d30_73 : DK cD31 73 (.istore 8) 2 := by decide +kernel
theorem d30_75 : DK cD31 75 (.iload 8) 2 := by decide +kernel
theorem d30_77 : DK cD31 77 (.aload_n 3) 1 := by decide +kernel
theorem d30_78 : DK cD31 78 (.invokevirtual 335) 3 := by decide +kernel
theorem d30_81 : DK cD31 81 (.if_icmp .ne 36) 3 := by decide +kernel
theorem d30_84 : DK cD31 84 (.iload 8) 2 := by decide +kernel
theorem d30_86 : DK cD31 86 (.ifCond .ne 18) 3 := by decide +kernel
theorem d30_89 : DK cD31 89 (.aload 6) 2 := by decide +kernel
theorem d30_91 : DK cD31 91 (.iload_n 2) 1 := by decide +kernel
theorem d30_92 : DK cD31 92 (.aload 7) 2 := by decide +kernel
theorem d30_94 : DK cD31 94 (.iload 4) 2 := by decide +kernel
theorem d30_96 : DK cD31 96 (.iload 5) 2 := by decide +kernel
theorem d30_98 : DK cD31 98 (.invokestatic 613) 3 := by decide +kernel
theorem d30_101 : DK cD31 101 (.goto 15) 3 := by decide +kernel
theorem d30_116 : DK cD31 116 (.ireturn) 1 := by decide +kernel
theorem pd_22 : parseMethodDescriptor "([BI[BII)Z" = some ⟨[(.array .byte), .int, (.array .byte), .int, .int], some .boolean⟩ := by decide +kernel
theorem ef_rmRgm (m : MethodId) (y0 : Addr) (y1 : Addr) : entryFrame m #[(.ref y0), (.int 1), (.int 0), (.ref y1), (.int 0), (.int 33)] 9 = (mkF m 0 #[vR y0, vI 1, vI 0, vR y1, vI 0, vI 33, .unset, .unset, .unset] []) := by first | (simp [entryFrame, mkF, argsToLocals, Value.category]; done) | rfl
def Q_rmRgm (Z : State) (a1 : Addr) (a3 : Addr) (bs : List Int32) (cs0 : Int32) (t1 t3 : Addr) (k1 k3 : ClassId) (h0 : Heap) (n0 : Nat) (v : Option Value) (h : Heap) (L : List Loc) : Prop := v = some (.int (if allCI bs = true then (1 : Int32) else 0)) ∧ Fr n0 L ∧ h = h0
theorem rmRgm (l : Launch) (Z : State) (a0 : Array Value) (hw : HW a0 Z) (ws : List Jvm.Cond) (a1 : Addr) (a3 : Addr) (bs : List Int32) (cs0 : Int32) (t1 t3 : Addr) (k1 k3 : ClassId) (h0 : Heap) (n0 : Nat) (O0 : Old Z n0 h0) (S_CS : SCS Z cs0) (c_CS : ¬ (cs0 = (0 : Int32))) (Es1 : Exa Z h0 a1 "java/lang/String") (Sv1 : Fld Z h0 a1 "java/lang/String" "value" "[B" (.ref t1)) (Sc1 : Fld Z h0 a1 "java/lang/String" "coder" "B" (.int 0)) (Vs1 : Arv Z h0 t1 k1 .byte (Int32.ofNat bs.length) (bs.map Value.int) (.int 0)) (Es3 : Exa Z h0 a3 "java/lang/String") (Sv3 : Fld Z h0 a3 "java/lang/String" "value" "[B" (.ref t3)) (Sc3 : Fld Z h0 a3 "java/lang/String" "coder" "B" (.int 0)) (Vs3 : Arv Z h0 t3 k3 .byte (Int32.ofNat media.length) (media.map Value.int) (.int 0)) (hl : bs.length = 33) :
  MF l mN31 jdk_42_method_74_code 9 (some .boolean) ws (Rm 2 0 0 50) Z #[(.ref a1), (.int 1), (.int 0), (.ref a3), (.int 0), (.int 33)] h0 (Q_rmRgm Z a1 a3 bs cs0 t1 t3 k1 k3 h0 n0) := by
 refine MetFree.of_bodySF (plainFor_of_name pn_1) hisR ?_
 intro p e s m args below meth c s₁ Bd hml0 hP hK
 obtain ⟨rfl, hZ, hh⟩ := hP
 have hx := Bd.exec
 have hby := Bd.bytes
 have hml : c.maxLocals = 9 := hml0
 have hown : s.vm.findClass "java/lang/String" = some m.cls := findClass_of_methodNamed Bd.named
 have X0 : Stand p l e (Rm 2 0 0 50) s m #[(.ref a1), (.int 1), (.int 0), (.ref a3), (.int 0), (.int 33)] below meth c s₁ [] 0 0 := Stand.of_body Bd
 have e0 : s₁.heap = h0 := by rw [← hh, Bd.state]; rfl
 have N0 := Fr.nil n0
 have hn0 : n0 ≤ h0.size := O0.1 ▸ O0.2.1
 have pre0 : ∀ t, SS p e below s₁ m 0 #[vR a1, vI 1, vI 0, vR a3, vI 0, vI 33, .unset, .unset, .unset] [] t → SE p e below s₁ m #[(.ref a1), (.int 1), (.int 0), (.ref a3), (.int 0), (.int 33)] 9 t := fun t k => castTop (ef_rmRgm m a1 a3) k
 have hml3 := own_medlen
 obtain ⟨cq101, kq101, q101a, q101b, q101c⟩ := isOf hZ e0 Es1
 obtain ⟨_, _, ⟨T101, L101, k101, n101⟩, -, X101, ⟨Lc101, hQ101, l101, y101, z101⟩, st101⟩ := X0.virtualBack hx (y := mN2) (z := mN2) hown (mvT hZ (tw hw 70 rfl)) (mvT hZ (tw hw 71 rfl)) (notFace_of_selects (args := #[]) (mvT hZ (tw hw 73 rfl))) (mvT hZ (tw hw 73 rfl)) (mvT hZ (tw hw 72 rfl)) (by decide) (backOf (W := 2) (rmLenL l Z a0 hw [] a1 bs t1 k1 cs0 h0 n0 O0 S_CS c_CS Es1 Sv1 Sc1 Vs1 (by omega)) hZ (tw hw 74 rfl) (tw hw 1 rfl) (by decide) (by decide)) q101a q101c (g := (mkF m 27 #[vR a1, vI 1, vI 0, vR a3, vI 0, vI 33, .unset, .unset, .unset] [(.ref a1), (.long ((0 : Int32).toInt64))])) rfl (by rw [hml]; rfl) (Steps.refl _) (argsL := []) (rest := [(.long ((0 : Int32).toInt64))]) (lenOf pd_14 rfl) rfl (wL _) (hb hby d30_27) (fun _ _ => ⟨rfl, e0, (by decide : 0 + 0 ≤ _), (by decide : 0 + 0 ≤ _)⟩)
 dsimp only [Pt.U, Pt.locs, Pt.cells, Pt.slots] at X101 l101 y101 z101 st101 hQ101
 rw [l101] at X101
 subst y101 z101
 obtain ⟨rfl, N101q, H101⟩ := hQ101
 have N101 := Fr.app N0 N101q
 have hr102 : (Int32.ofNat bs.length) = (33 : Int32) := by rw [hl]; rfl
 obtain ⟨cq103, kq103, q103a, q103b, q103c⟩ := isOf hZ H101 Es3
 obtain ⟨_, _, ⟨T103, L103, k103, n103⟩, -, X103, ⟨Lc103, hQ103, l103, y103, z103⟩, st103⟩ := X101.virtualBack hx (y := mN2) (z := mN2) hown (mvT hZ (tw hw 70 rfl)) (mvT hZ (tw hw 71 rfl)) (notFace_of_selects (args := #[]) (mvT hZ (tw hw 73 rfl))) (mvT hZ (tw hw 73 rfl)) (mvT hZ (tw hw 72 rfl)) (by decide) (backOf (W := 2) (rmLenL l Z a0 hw [] a3 media t3 k3 cs0 h0 n0 O0 S_CS c_CS Es3 Sv3 Sc3 Vs3 (by omega)) hZ (tw hw 74 rfl) (tw hw 1 rfl) (by decide) (by decide)) q103a q103c (g := (mkF m 43 #[vR a1, vI 1, vI 0, vR a3, vI 0, vI 33, .unset, .unset, .unset] [(.ref a3), (.long ((0 : Int32).toInt64))])) rfl (by rw [hml]; rfl) (Steps.refl _) (argsL := []) (rest := [(.long ((0 : Int32).toInt64))]) (lenOf pd_14 rfl) rfl (wL _) (hb hby d30_43) (fun _ _ => ⟨rfl, H101, (by decide : 0 + 0 ≤ _), (by decide : 0 + 0 ≤ _)⟩)
 dsimp only [Pt.U, Pt.locs, Pt.cells, Pt.slots] at X103 l103 y103 z103 st103 hQ103
 rw [l103] at X103
 subst y103 z103
 obtain ⟨rfl, N103q, H103⟩ := hQ103
 have N103 := Fr.app N101 N103q
 have hr104 : (Int32.ofNat media.length) = (33 : Int32) := by rw [own_medlen]; rfl
 obtain ⟨T105, X105, e105, st105⟩ := getF X103 hx hZ hown (host := "") (Or.inl (tw hw 21 rfl)) Via.refl H103 Sv1 (g := (mkF m 58 #[vR a1, vI 1, vI 0, vR a3, vI 0, vI 33, .unset, .unset, .unset] [(.ref a1)])) rfl rfl (hb hby d30_58)
 obtain ⟨T106, X106, e106, st106⟩ := getF X105 hx hZ hown (host := "") (Or.inl (tw hw 21 rfl)) Via.refl e105 Sv3 (g := (mkF m 64 #[vR a1, vI 1, vI 0, vR a3, vI 0, vI 33, vR t1, .unset, .unset] [(.ref a3)])) rfl rfl (hb hby d30_64)
 obtain ⟨cq107, kq107, q107a, q107b, q107c⟩ := isOf hZ e106 Es1
 obtain ⟨_, _, ⟨T107, L107, k107, n107⟩, -, X107, ⟨Lc107, hQ107, l107, y107, z107⟩, st107⟩ := X106.virtualBack hx (y := mN0) (z := mN0) hown (mvT hZ (tw hw 75 rfl)) (mvT hZ (tw hw 76 rfl)) (notFace_of_selects (args := #[]) (mvT hZ (tw hw 78 rfl))) (mvT hZ (tw hw 78 rfl)) (mvT hZ (tw hw 77 rfl)) (by decide) (backOf (W := 0) (rmCoderL l Z a0 hw [] a1 bs t1 k1 cs0 h0 n0 O0 S_CS c_CS Es1 Sv1 Sc1 Vs1 (by omega)) hZ (tw hw 79 rfl) (tw hw 1 rfl) (by decide) (by decide)) q107a q107c (g := (mkF m 70 #[vR a1, vI 1, vI 0, vR a3, vI 0, vI 33, vR t1, vR t3, .unset] [(.ref a1)])) rfl (by rw [hml]; rfl) (Steps.refl _) (argsL := []) (rest := []) (lenOf pd_15 rfl) rfl (wL _) (hb hby d30_70) (fun _ _ => ⟨rfl, e106, (by decide : 0 + 0 ≤ _), (by decide : 0 + 0 ≤ _)⟩)
 dsimp only [Pt.U, Pt.locs, Pt.cells, Pt.slots] at X107 l107 y107 z107 st107 hQ107
 rw [l107] at X107
 subst y107 z107
 obtain ⟨rfl, N107q, H107⟩ := hQ107
 have N107 := Fr.app N103 N107q
 obtain ⟨cq108, kq108, q108a, q108b, q108c⟩ := isOf hZ H107 Es3
 obtain ⟨_, _, ⟨T108, L108, k108, n108⟩, -, X108, ⟨Lc108, hQ108, l108, y108, z108⟩, st108⟩ := X107.virtualBack hx (y := mN0) (z := mN0) hown (mvT hZ (tw hw 75 rfl)) (mvT hZ (tw hw 76 rfl)) (notFace_of_selects (args := #[]) (mvT hZ (tw hw 78 rfl))) (mvT hZ (tw hw 78 rfl)) (mvT hZ (tw hw 77 rfl)) (by decide) (backOf (W := 1) (rmCoderL l Z a0 hw [] a3 media t3 k3 cs0 h0 n0 O0 S_CS c_CS Es3 Sv3 Sc3 Vs3 (by omega)) hZ (tw hw 79 rfl) (tw hw 1 rfl) (by decide) (by decide)) q108a q108c (g := (mkF m 78 #[vR a1, vI 1, vI 0, vR a3, vI 0, vI 33, vR t1, vR t3, vI 0] [(.ref a3), (.int 0)])) rfl (by rw [hml]; rfl) (Steps.refl _) (argsL := []) (rest := [(.int 0)]) (lenOf pd_15 rfl) rfl (wL _) (hb hby d30_78) (fun _ _ => ⟨rfl, H107, (by decide : 0 + 0 ≤ _), (by decide : 0 + 0 ≤ _)⟩)
 dsimp only [Pt.U, Pt.locs, Pt.cells, Pt.slots] at X108 l108 y108 z108 st108 hQ108
 rw [l108] at X108
 subst y108 z108
 obtain ⟨rfl, N108q, H108⟩ := hQ108
 have N108 := Fr.app N107 N108q
 have Vz109 : Arv Z h0 t1 k1 .byte (33 : Int32) (bs.map Value.int) (.int 0) := by have h := Vs1; rw [hl] at h; exact h
 have Vz110 : Arv Z h0 t3 k3 .byte (33 : Int32) (media.map Value.int) (.int 0) := by have h := Vs3; rw [own_medlen] at h; exact h
 obtain ⟨_, _, ⟨T111, L111, k111, n111⟩, -, X111, ⟨Lc111, hQ111, l111, y111, z111⟩, st111⟩ := Jvm.LawKit.callS X108 hx (y := mN30) hown (mvT hZ (tw hw 137 rfl)) (mvT hZ (tw hw 138 rfl)) (mvT hZ (tw hw 24 rfl)) (mvT hZ (tw hw 139 rfl)) (by decide) (backOf (W := 0) (rmRci l Z a0 hw [] t1 t3 bs k1 k3 h0 n0 O0 Vz109 Vz110 hl) hZ (tw hw 139 rfl) (tw hw 24 rfl) (by decide) (by decide)) (g := (mkF m 98 #[vR a1, vI 1, vI 0, vR a3, vI 0, vI 33, vR t1, vR t3, vI 0] [(.int 33), (.int 0), (.ref t3), (.int 0), (.ref t1)])) rfl (by rw [hml]; rfl) (argsL := [(.ref t1), (.int 0), (.ref t3), (.int 0), (.int 33)]) (rest := []) (lenOf pd_22 rfl) rfl (wL _) (hb hby d30_98) (fun _ _ => ⟨rfl, H108, (by decide : 0 + 0 ≤ _), (by decide : 0 + 0 ≤ _)⟩)
 dsimp only [Pt.U, Pt.locs, Pt.cells, Pt.slots] at X111 l111 y111 z111 st111 hQ111
 rw [l111] at X111
 subst y111 z111
 obtain ⟨rfl, N111q, H111⟩ := hQ111
 have N111 := Fr.app N108 N111q
 obtain ⟨fs, hr, hrun, hended, hW, hsame⟩ := X111.leave (v := some (.int (nar .boolean (if allCI bs = true then (1 : Int32) else 0)))) (nvr Bd.returns)
 refine ⟨_, _, pre0 _ ?_, hrun, hended, _, _, rfl, ?_, ⟨_, rfl⟩, hW, hsame.mono (by decide) (by decide)⟩
 ·skip
  show SS p e below s₁ m 0 #[vR a1, vI 1, vI 0, vR a3, vI 0, vI 33, .unset, .unset, .unset] [] _
  refine XS.iloadN X0.here hx rfl (hb hby d30_0) rfl ?_
  refine XS.ifYes X0.here hx rfl (pc0 := 1) (pc' := 15) rfl (hb hby d30_1) rfl ((if0 _ _).trans (feq (by decide : ¬ ((1 : Int32) = (0 : Int32)))).2) (by decide) (by decide) ?_
  refine XS.iload X0.here hx rfl (hb hby d30_15) rfl ?_
  refine XS.ifNo X0.here hx rfl (hb hby d30_17) rfl ((if0 _ _).trans (flt (by decide : ¬ ((0 : Int32) < (0 : Int32)))).1) ?_
  refine XS.iloadN X0.here hx rfl (hb hby d30_20) rfl ?_
  refine XS.ifNo X0.here hx rfl (hb hby d30_21) rfl ((if0 _ _).trans (flt (by decide : ¬ ((0 : Int32) < (0 : Int32)))).1) ?_
  refine XS.iloadN X0.here hx rfl (hb hby d30_24) rfl ?_
  refine XS.i2l X0.here hx rfl (hb hby d30_25) rfl ?_
  refine XS.aloadN X0.here hx rfl (hb hby d30_26) rfl rfl ?_
  show SS p e below s₁ m 27 #[vR a1, vI 1, vI 0, vR a3, vI 0, vI 33, .unset, .unset, .unset] [(.ref a1), (.long ((0 : Int32).toInt64))] _
  refine st101.trans ?_
  show SS p e below T101 m 30 #[vR a1, vI 1, vI 0, vR a3, vI 0, vI 33, .unset, .unset, .unset] [(.int (Int32.ofNat bs.length)), (.long ((0 : Int32).toInt64))] _
  rw [hr102]
  refine XS.i2l X101.here hx rfl (hb hby d30_30) rfl ?_
  refine XS.iload X101.here hx rfl (hb hby d30_31) rfl ?_
  refine XS.i2l X101.here hx rfl (hb hby d30_33) rfl ?_
  show SS p e below T101 m 34 #[vR a1, vI 1, vI 0, vR a3, vI 0, vI 33, .unset, .unset, .unset] [(.long ((33 : Int32).toInt64)), (.long ((33 : Int32).toInt64)), (.long ((0 : Int32).toInt64))] _
  refine XS.lsub X101.here hx rfl (hb hby d30_34) rfl ?_
  show SS p e below T101 m 35 #[vR a1, vI 1, vI 0, vR a3, vI 0, vI 33, .unset, .unset, .unset] [(.long (((33 : Int32).toInt64) - ((33 : Int32).toInt64))), (.long ((0 : Int32).toInt64))] _
  refine XS.lcmp X101.here hx rfl (hb hby d30_35) rfl ?_
  refine XS.ifNo X101.here hx rfl (hb hby d30_36) rfl ((if0 _ _).trans (flt (by decide : ¬ ((0 : Int32) < (lcmpW ((0 : Int32).toInt64) (((33 : Int32).toInt64) - ((33 : Int32).toInt64)))))).2.2.1) ?_
  refine XS.iload X101.here hx rfl (hb hby d30_39) rfl ?_
  refine XS.i2l X101.here hx rfl (hb hby d30_41) rfl ?_
  refine XS.aloadN X101.here hx rfl (hb hby d30_42) rfl rfl ?_
  show SS p e below T101 m 43 #[vR a1, vI 1, vI 0, vR a3, vI 0, vI 33, .unset, .unset, .unset] [(.ref a3), (.long ((0 : Int32).toInt64))] _
  refine st103.trans ?_
  show SS p e below T103 m 46 #[vR a1, vI 1, vI 0, vR a3, vI 0, vI 33, .unset, .unset, .unset] [(.int (Int32.ofNat media.length)), (.long ((0 : Int32).toInt64))] _
  rw [hr104]
  refine XS.i2l X103.here hx rfl (hb hby d30_46) rfl ?_
  refine XS.iload X103.here hx rfl (hb hby d30_47) rfl ?_
  refine XS.i2l X103.here hx rfl (hb hby d30_49) rfl ?_
  show SS p e below T103 m 50 #[vR a1, vI 1, vI 0, vR a3, vI 0, vI 33, .unset, .unset, .unset] [(.long ((33 : Int32).toInt64)), (.long ((33 : Int32).toInt64)), (.long ((0 : Int32).toInt64))] _
  refine XS.lsub X103.here hx rfl (hb hby d30_50) rfl ?_
  show SS p e below T103 m 51 #[vR a1, vI 1, vI 0, vR a3, vI 0, vI 33, .unset, .unset, .unset] [(.long (((33 : Int32).toInt64) - ((33 : Int32).toInt64))), (.long ((0 : Int32).toInt64))] _
  refine XS.lcmp X103.here hx rfl (hb hby d30_51) rfl ?_
  refine XS.ifYes X103.here hx rfl (pc0 := 52) (pc' := 57) rfl (hb hby d30_52) rfl ((if0 _ _).trans (flt (by decide : ¬ ((0 : Int32) < (lcmpW ((0 : Int32).toInt64) (((33 : Int32).toInt64) - ((33 : Int32).toInt64)))))).2.2.2) (by decide) (by decide) ?_
  refine XS.aloadN X103.here hx rfl (hb hby d30_57) rfl rfl ?_
  show SS p e below T103 m 58 #[vR a1, vI 1, vI 0, vR a3, vI 0, vI 33, .unset, .unset, .unset] [(.ref a1)] _
  refine st105 _ ?_
  refine XS.astore X105.here hx rfl (hb hby d30_61) rfl rfl (l' := #[vR a1, vI 1, vI 0, vR a3, vI 0, vI 33, vR t1, .unset, .unset]) rfl ?_
  refine XS.aloadN X105.here hx rfl (hb hby d30_63) rfl rfl ?_
  show SS p e below T105 m 64 #[vR a1, vI 1, vI 0, vR a3, vI 0, vI 33, vR t1, .unset, .unset] [(.ref a3)] _
  refine st106 _ ?_
  refine XS.astore X106.here hx rfl (hb hby d30_67) rfl rfl (l' := #[vR a1, vI 1, vI 0, vR a3, vI 0, vI 33, vR t1, vR t3, .unset]) rfl ?_
  refine XS.aloadN X106.here hx rfl (hb hby d30_69) rfl rfl ?_
  show SS p e below T106 m 70 #[vR a1, vI 1, vI 0, vR a3, vI 0, vI 33, vR t1, vR t3, .unset] [(.ref a1)] _
  refine st107.trans ?_
  refine XS.istore X107.here hx rfl (hb hby d30_73) rfl (l' := #[vR a1, vI 1, vI 0, vR a3, vI 0, vI 33, vR t1, vR t3, vI 0]) rfl ?_
  refine XS.iload X107.here hx rfl (hb hby d30_75) rfl ?_
  refine XS.aloadN X107.here hx rfl (hb hby d30_77) rfl rfl ?_
  show SS p e below T107 m 78 #[vR a1, vI 1, vI 0, vR a3, vI 0, vI 33, vR t1, vR t3, vI 0] [(.ref a3), (.int 0)] _
  refine st108.trans ?_
  refine XS.icmpNo X108.here hx rfl (hb hby d30_81) rfl (teq (by decide : (0 : Int32) = (0 : Int32))).2 ?_
  refine XS.iload X108.here hx rfl (hb hby d30_84) rfl ?_
  refine XS.ifNo X108.here hx rfl (hb hby d30_86) rfl ((if0 _ _).trans (teq (by decide : (0 : Int32) = (0 : Int32))).2) ?_
  refine XS.aload X108.here hx rfl (hb hby d30_89) rfl rfl ?_
  refine XS.iloadN X108.here hx rfl (hb hby d30_91) rfl ?_
  refine XS.aload X108.here hx rfl (hb hby d30_92) rfl rfl ?_
  refine XS.iload X108.here hx rfl (hb hby d30_94) rfl ?_
  refine XS.iload X108.here hx rfl (hb hby d30_96) rfl ?_
  show SS p e below T108 m 98 #[vR a1, vI 1, vI 0, vR a3, vI 0, vI 33, vR t1, vR t3, vI 0] [(.int 33), (.int 0), (.ref t3), (.int 0), (.ref t1)] _
  refine st111 _ ?_
  refine XS.goto X111.here hx rfl (pc0 := 101) (pc' := 116) rfl (hb hby d30_101) (by decide) (by decide) ?_
  show SS p e below T111 m 116 #[vR a1, vI 1, vI 0, vR a3, vI 0, vI 33, vR t1, vR t3, vI 0] [(.int (if allCI bs = true then (1 : Int32) else 0))] _
  exact retN X111 hx (t := .boolean) Bd.returns (by simp) (hb hby d30_116) hr
 ·show Q_rmRgm Z a1 a3 bs cs0 t1 t3 k1 k3 h0 n0 _ T111.heap _
  rw [H111]
  exact ⟨congrArg (fun z => some (Value.int z)) (by split <;> rfl), N111, rfl⟩
theorem d29_0 : DK cD32 0 (.aload_n 0) 1 := by decide +kernel
theorem d29_1 : DK cD32 1 (.aload_n 1) 1 := by decide +kernel
theorem d29_2 : DK cD32 2 (.if_acmp .ne 7) 3 := by decide +kernel
theorem d29_5 : DK cD32 5 (.iconst 1) 1 := by decide +kernel
theorem d29_6 : DK cD32 6 (.goto 38) 3 := by decide +kernel
theorem d29_44 : DK cD32 44 (.ireturn) 1 := by decide +kernel
theorem ef_rmEqS (m : MethodId) (y0 : Addr) : entryFrame m #[(.ref y0), (.ref y0)] 2 = (mkF m 0 #[vR y0, vR y0] []) := by first | (simp [entryFrame, mkF, argsToLocals, Value.category]; done) | rfl
def Q_rmEqS (Z : State) (a1 : Addr) (h0 : Heap) (n0 : Nat) (v : Option Value) (h : Heap) (L : List Loc) : Prop := v = some (.int 1) ∧ Fr n0 L ∧ h = h0
theorem rmEqS (l : Launch) (Z : State) (a0 : Array Value) (hw : HW a0 Z) (ws : List Jvm.Cond) (a1 : Addr) (h0 : Heap) (n0 : Nat) (O0 : Old Z n0 h0) :
  MF l mN32 jdk_42_method_70_code 2 (some .boolean) ws (Rm 3 0 0 80) Z #[(.ref a1), (.ref a1)] h0 (Q_rmEqS Z a1 h0 n0) := by
 refine MetFree.of_bodySF (plainFor_of_name pn_1) hisR ?_
 intro p e s m args below meth c s₁ Bd hml0 hP hK
 obtain ⟨rfl, hZ, hh⟩ := hP
 have hx := Bd.exec
 have hby := Bd.bytes
 have hml : c.maxLocals = 2 := hml0
 have hown : s.vm.findClass "java/lang/String" = some m.cls := findClass_of_methodNamed Bd.named
 have X0 : Stand p l e (Rm 3 0 0 80) s m #[(.ref a1), (.ref a1)] below meth c s₁ [] 0 0 := Stand.of_body Bd
 have e0 : s₁.heap = h0 := by rw [← hh, Bd.state]; rfl
 have N0 := Fr.nil n0
 have hn0 : n0 ≤ h0.size := O0.1 ▸ O0.2.1
 have pre0 : ∀ t, SS p e below s₁ m 0 #[vR a1, vR a1] [] t → SE p e below s₁ m #[(.ref a1), (.ref a1)] 2 t := fun t k => castTop (ef_rmEqS m a1) k
 obtain ⟨fs, hr, hrun, hended, hW, hsame⟩ := X0.leave (v := some (.int 1)) (nvr Bd.returns)
 refine ⟨_, _, pre0 _ ?_, hrun, hended, _, _, rfl, ?_, ⟨_, rfl⟩, hW, hsame.mono (by decide) (by decide)⟩
 ·skip
  show SS p e below s₁ m 0 #[vR a1, vR a1] [] _
  refine XS.aloadN X0.here hx rfl (hb hby d29_0) rfl rfl ?_
  refine XS.aloadN X0.here hx rfl (hb hby d29_1) rfl rfl ?_
  show SS p e below s₁ m 2 #[vR a1, vR a1] [(.ref a1), (.ref a1)] _
  refine Jvm.RoadKit.acmp (g := (mkF m 2 #[vR a1, vR a1] [(.ref a1), (.ref a1)])) X0 hx rfl rfl rfl (pc0 := 2) (pc' := 5) (same := true) rfl (hb hby d29_2) rfl (decide_eq_true rfl) (by decide) (by decide) ?_
  refine XS.iconst X0.here hx rfl (hb hby d29_5) ?_
  refine XS.goto X0.here hx rfl (pc0 := 6) (pc' := 44) rfl (hb hby d29_6) (by decide) (by decide) ?_
  show SS p e below s₁ m 44 #[vR a1, vR a1] [(.int 1)] _
  exact retN X0 hx (t := .boolean) Bd.returns (by simp) (hb hby d29_44) hr
 ·show Q_rmEqS Z a1 h0 n0 _ s₁.heap _
  rw [e0]
  exact ⟨rfl, N0, rfl⟩
theorem d29_9 : DK cD32 9 (.aload_n 1) 1 := by decide +kernel
theorem d29_10 : DK cD32 10 (.ifnull 33) 3 := by decide +kernel
theorem d29_13 : DK cD32 13 (.aload_n 1) 1 := by decide +kernel
theorem d29_14 : DK cD32 14 (.invokevirtual 505) 3 := by decide +kernel
theorem d29_17 : DK cD32 17 (.aload_n 0) 1 := by decide +kernel
theorem d29_18 : DK cD32 18 (.invokevirtual 505) 3 := by decide +kernel
theorem d29_21 : DK cD32 21 (.if_icmp .ne 22) 3 := by decide +kernel
theorem d29_43 : DK cD32 43 (.iconst 0) 1 := by decide +kernel
theorem ef_rmEqD (m : MethodId) (y0 : Addr) (y1 : Addr) : entryFrame m #[(.ref y0), (.ref y1)] 2 = (mkF m 0 #[vR y0, vR y1] []) := by first | (simp [entryFrame, mkF, argsToLocals, Value.category]; done) | rfl
def Q_rmEqD (Z : State) (a1 : Addr) (a2 : Addr) (bs : List Int32) (cs0 : Int32) (t1 t2 : Addr) (k1 k2 : ClassId) (h0 : Heap) (n0 : Nat) (v : Option Value) (h : Heap) (L : List Loc) : Prop := v = some (.int (eqR bs)) ∧ Fr n0 L ∧ h = h0
theorem rmEqD (l : Launch) (Z : State) (a0 : Array Value) (hw : HW a0 Z) (ws : List Jvm.Cond) (a1 : Addr) (a2 : Addr) (bs : List Int32) (cs0 : Int32) (t1 t2 : Addr) (k1 k2 : ClassId) (h0 : Heap) (n0 : Nat) (O0 : Old Z n0 h0) (S_CS : SCS Z cs0) (c_CS : ¬ (cs0 = (0 : Int32))) (Es1 : Exa Z h0 a1 "java/lang/String") (Sv1 : Fld Z h0 a1 "java/lang/String" "value" "[B" (.ref t1)) (Sc1 : Fld Z h0 a1 "java/lang/String" "coder" "B" (.int 0)) (Vs1 : Arv Z h0 t1 k1 .byte (Int32.ofNat bs.length) (bs.map Value.int) (.int 0)) (Es2 : Exa Z h0 a2 "java/lang/String") (Sv2 : Fld Z h0 a2 "java/lang/String" "value" "[B" (.ref t2)) (Sc2 : Fld Z h0 a2 "java/lang/String" "coder" "B" (.int 0)) (Vs2 : Arv Z h0 t2 k2 .byte (Int32.ofNat media.length) (media.map Value.int) (.int 0)) (hn : bs.length ≤ 40) (hne : @Ne Nat a1 a2) (hl : ¬ bs.length = 33) :
  MF l mN32 jdk_42_method_70_code 2 (some .boolean) ws (Rm 3 0 0 80) Z #[(.ref a1), (.ref a2)] h0 (Q_rmEqD Z a1 a2 bs cs0 t1 t2 k1 k2 h0 n0) := by
 refine MetFree.of_bodySF (plainFor_of_name pn_1) hisR ?_
 intro p e s m args below meth c s₁ Bd hml0 hP hK
 obtain ⟨rfl, hZ, hh⟩ := hP
 have hx := Bd.exec
 have hby := Bd.bytes
 have hml : c.maxLocals = 2 := hml0
 have hown : s.vm.findClass "java/lang/String" = some m.cls := findClass_of_methodNamed Bd.named
 have X0 : Stand p l e (Rm 3 0 0 80) s m #[(.ref a1), (.ref a2)] below meth c s₁ [] 0 0 := Stand.of_body Bd
 have e0 : s₁.heap = h0 := by rw [← hh, Bd.state]; rfl
 have N0 := Fr.nil n0
 have hn0 : n0 ≤ h0.size := O0.1 ▸ O0.2.1
 have pre0 : ∀ t, SS p e below s₁ m 0 #[vR a1, vR a2] [] t → SE p e below s₁ m #[(.ref a1), (.ref a2)] 2 t := fun t k => castTop (ef_rmEqD m a1 a2) k
 have hml3 := own_medlen
 obtain ⟨cq101, kq101, q101a, q101b, q101c⟩ := isOf hZ e0 Es2
 obtain ⟨_, _, ⟨T101, L101, k101, n101⟩, -, X101, ⟨Lc101, hQ101, l101, y101, z101⟩, st101⟩ := X0.virtualBack hx (y := mN2) (z := mN2) hown (mvT hZ (tw hw 70 rfl)) (mvT hZ (tw hw 71 rfl)) (notFace_of_selects (args := #[]) (mvT hZ (tw hw 73 rfl))) (mvT hZ (tw hw 73 rfl)) (mvT hZ (tw hw 72 rfl)) (by decide) (backOf (W := 0) (rmLenL l Z a0 hw [] a2 media t2 k2 cs0 h0 n0 O0 S_CS c_CS Es2 Sv2 Sc2 Vs2 (by omega)) hZ (tw hw 74 rfl) (tw hw 1 rfl) (by decide) (by decide)) q101a q101c (g := (mkF m 14 #[vR a1, vR a2] [(.ref a2)])) rfl (by rw [hml]; rfl) (Steps.refl _) (argsL := []) (rest := []) (lenOf pd_14 rfl) rfl (wL _) (hb hby d29_14) (fun _ _ => ⟨rfl, e0, (by decide : 0 + 0 ≤ _), (by decide : 0 + 0 ≤ _)⟩)
 dsimp only [Pt.U, Pt.locs, Pt.cells, Pt.slots] at X101 l101 y101 z101 st101 hQ101
 rw [l101] at X101
 subst y101 z101
 obtain ⟨rfl, N101q, H101⟩ := hQ101
 have N101 := Fr.app N0 N101q
 obtain ⟨cq102, kq102, q102a, q102b, q102c⟩ := isOf hZ H101 Es1
 obtain ⟨_, _, ⟨T102, L102, k102, n102⟩, -, X102, ⟨Lc102, hQ102, l102, y102, z102⟩, st102⟩ := X101.virtualBack hx (y := mN2) (z := mN2) hown (mvT hZ (tw hw 70 rfl)) (mvT hZ (tw hw 71 rfl)) (notFace_of_selects (args := #[]) (mvT hZ (tw hw 73 rfl))) (mvT hZ (tw hw 73 rfl)) (mvT hZ (tw hw 72 rfl)) (by decide) (backOf (W := 1) (rmLenL l Z a0 hw [] a1 bs t1 k1 cs0 h0 n0 O0 S_CS c_CS Es1 Sv1 Sc1 Vs1 (by omega)) hZ (tw hw 74 rfl) (tw hw 1 rfl) (by decide) (by decide)) q102a q102c (g := (mkF m 18 #[vR a1, vR a2] [(.ref a1), (.int (Int32.ofNat media.length))])) rfl (by rw [hml]; rfl) (Steps.refl _) (argsL := []) (rest := [(.int (Int32.ofNat media.length))]) (lenOf pd_14 rfl) rfl (wL _) (hb hby d29_18) (fun _ _ => ⟨rfl, H101, (by decide : 0 + 0 ≤ _), (by decide : 0 + 0 ≤ _)⟩)
 dsimp only [Pt.U, Pt.locs, Pt.cells, Pt.slots] at X102 l102 y102 z102 st102 hQ102
 rw [l102] at X102
 subst y102 z102
 obtain ⟨rfl, N102q, H102⟩ := hQ102
 have N102 := Fr.app N101 N102q
 obtain ⟨fs, hr, hrun, hended, hW, hsame⟩ := X102.leave (v := some (.int 0)) (nvr Bd.returns)
 refine ⟨_, _, pre0 _ ?_, hrun, hended, _, _, rfl, ?_, ⟨_, rfl⟩, hW, hsame.mono (by decide) (by decide)⟩
 ·skip
  show SS p e below s₁ m 0 #[vR a1, vR a2] [] _
  refine XS.aloadN X0.here hx rfl (hb hby d29_0) rfl rfl ?_
  refine XS.aloadN X0.here hx rfl (hb hby d29_1) rfl rfl ?_
  show SS p e below s₁ m 2 #[vR a1, vR a2] [(.ref a2), (.ref a1)] _
  refine Jvm.RoadKit.acmp (g := (mkF m 2 #[vR a1, vR a2] [(.ref a2), (.ref a1)])) X0 hx rfl rfl rfl (pc0 := 2) (pc' := 9) (same := false) rfl (hb hby d29_2) rfl (decide_eq_false fun q => hne (Value.ref.inj q)) (by decide) (by decide) ?_
  refine XS.aloadN X0.here hx rfl (hb hby d29_9) rfl rfl ?_
  refine XS.ifnullNo X0.here hx rfl (hb hby d29_10) rfl ?_
  refine XS.aloadN X0.here hx rfl (hb hby d29_13) rfl rfl ?_
  show SS p e below s₁ m 14 #[vR a1, vR a2] [(.ref a2)] _
  refine st101.trans ?_
  refine XS.aloadN X101.here hx rfl (hb hby d29_17) rfl rfl ?_
  show SS p e below T101 m 18 #[vR a1, vR a2] [(.ref a1), (.int (Int32.ofNat media.length))] _
  refine st102.trans ?_
  refine XS.icmpYes X102.here hx rfl (pc0 := 21) (pc' := 43) rfl (hb hby d29_21) rfl (feq (fun q => hl (by have := (own_eqn (by omega) (by omega)).mp q; omega) : ¬ ((Int32.ofNat media.length) = (Int32.ofNat bs.length)))).2 (by decide) (by decide) ?_
  refine XS.iconst X102.here hx rfl (hb hby d29_43) ?_
  show SS p e below T102 m 44 #[vR a1, vR a2] [(.int 0)] _
  exact retN X102 hx (t := .boolean) Bd.returns (by simp) (hb hby d29_44) hr
 ·show Q_rmEqD Z a1 a2 bs cs0 t1 t2 k1 k2 h0 n0 _ T102.heap _
  rw [H102]
  exact ⟨by rw [eqR, if_neg (fun q => hl q.1)], N102, rfl⟩
theorem d29_24 : DK cD32 24 (.aload_n 0) 1 := by decide +kernel
theorem d29_25 : DK cD32 25 (.iconst 1) 1 := by decide +kernel
theorem d29_26 : DK cD32 26 (.iconst 0) 1 := by decide +kernel
theorem d29_27 : DK cD32 27 (.aload_n 1) 1 := by decide +kernel
theorem d29_28 : DK cD32 28 (.iconst 0) 1 := by decide +kernel
theorem d29_29 : DK cD32 29 (.aload_n 0) 1 := by decide +kernel
theorem d29_30 : DK cD32 30 (.invokevirtual 505) 3 := by decide +kernel
theorem d29_33 : DK cD32 33 (.invokevirtual 582) 3 := by decide +kernel
theorem d29_36 : DK cD32 36 (.ifCond .eq 7) 3 := by decide +kernel
theorem d29_39 : DK cD32 39 (.iconst 1) 1 := by decide +kernel
theorem d29_40 : DK cD32 40 (.goto 4) 3 := by decide +kernel
theorem pd_21 : parseMethodDescriptor "(ZILjava/lang/String;II)Z" = some ⟨[.boolean, .int, (.object "java/lang/String"), .int, .int], some .boolean⟩ := by decide +kernel
theorem ef_rmEqM (m : MethodId) (y0 : Addr) (y1 : Addr) : entryFrame m #[(.ref y0), (.ref y1)] 2 = (mkF m 0 #[vR y0, vR y1] []) := by first | (simp [entryFrame, mkF, argsToLocals, Value.category]; done) | rfl
def Q_rmEqM (Z : State) (a1 : Addr) (a2 : Addr) (bs : List Int32) (cs0 : Int32) (t1 t2 : Addr) (k1 k2 : ClassId) (h0 : Heap) (n0 : Nat) (v : Option Value) (h : Heap) (L : List Loc) : Prop := v = some (.int (eqR bs)) ∧ Fr n0 L ∧ h = h0
theorem rmEqM (l : Launch) (Z : State) (a0 : Array Value) (hw : HW a0 Z) (ws : List Jvm.Cond) (a1 : Addr) (a2 : Addr) (bs : List Int32) (cs0 : Int32) (t1 t2 : Addr) (k1 k2 : ClassId) (h0 : Heap) (n0 : Nat) (O0 : Old Z n0 h0) (S_CS : SCS Z cs0) (c_CS : ¬ (cs0 = (0 : Int32))) (Es1 : Exa Z h0 a1 "java/lang/String") (Sv1 : Fld Z h0 a1 "java/lang/String" "value" "[B" (.ref t1)) (Sc1 : Fld Z h0 a1 "java/lang/String" "coder" "B" (.int 0)) (Vs1 : Arv Z h0 t1 k1 .byte (Int32.ofNat bs.length) (bs.map Value.int) (.int 0)) (Es2 : Exa Z h0 a2 "java/lang/String") (Sv2 : Fld Z h0 a2 "java/lang/String" "value" "[B" (.ref t2)) (Sc2 : Fld Z h0 a2 "java/lang/String" "coder" "B" (.int 0)) (Vs2 : Arv Z h0 t2 k2 .byte (Int32.ofNat media.length) (media.map Value.int) (.int 0)) (hn : bs.length ≤ 40) (hne : @Ne Nat a1 a2) (hl : bs.length = 33) :
  MF l mN32 jdk_42_method_70_code 2 (some .boolean) ws (Rm 3 0 0 80) Z #[(.ref a1), (.ref a2)] h0 (Q_rmEqM Z a1 a2 bs cs0 t1 t2 k1 k2 h0 n0) := by
 refine MetFree.of_bodySF (plainFor_of_name pn_1) hisR ?_
 intro p e s m args below meth c s₁ Bd hml0 hP hK
 obtain ⟨rfl, hZ, hh⟩ := hP
 have hx := Bd.exec
 have hby := Bd.bytes
 have hml : c.maxLocals = 2 := hml0
 have hown : s.vm.findClass "java/lang/String" = some m.cls := findClass_of_methodNamed Bd.named
 have X0 : Stand p l e (Rm 3 0 0 80) s m #[(.ref a1), (.ref a2)] below meth c s₁ [] 0 0 := Stand.of_body Bd
 have e0 : s₁.heap = h0 := by rw [← hh, Bd.state]; rfl
 have N0 := Fr.nil n0
 have hn0 : n0 ≤ h0.size := O0.1 ▸ O0.2.1
 have pre0 : ∀ t, SS p e below s₁ m 0 #[vR a1, vR a2] [] t → SE p e below s₁ m #[(.ref a1), (.ref a2)] 2 t := fun t k => castTop (ef_rmEqM m a1 a2) k
 have hml3 := own_medlen
 obtain ⟨cq101, kq101, q101a, q101b, q101c⟩ := isOf hZ e0 Es2
 obtain ⟨_, _, ⟨T101, L101, k101, n101⟩, -, X101, ⟨Lc101, hQ101, l101, y101, z101⟩, st101⟩ := X0.virtualBack hx (y := mN2) (z := mN2) hown (mvT hZ (tw hw 70 rfl)) (mvT hZ (tw hw 71 rfl)) (notFace_of_selects (args := #[]) (mvT hZ (tw hw 73 rfl))) (mvT hZ (tw hw 73 rfl)) (mvT hZ (tw hw 72 rfl)) (by decide) (backOf (W := 0) (rmLenL l Z a0 hw [] a2 media t2 k2 cs0 h0 n0 O0 S_CS c_CS Es2 Sv2 Sc2 Vs2 (by omega)) hZ (tw hw 74 rfl) (tw hw 1 rfl) (by decide) (by decide)) q101a q101c (g := (mkF m 14 #[vR a1, vR a2] [(.ref a2)])) rfl (by rw [hml]; rfl) (Steps.refl _) (argsL := []) (rest := []) (lenOf pd_14 rfl) rfl (wL _) (hb hby d29_14) (fun _ _ => ⟨rfl, e0, (by decide : 0 + 0 ≤ _), (by decide : 0 + 0 ≤ _)⟩)
 dsimp only [Pt.U, Pt.locs, Pt.cells, Pt.slots] at X101 l101 y101 z101 st101 hQ101
 rw [l101] at X101
 subst y101 z101
 obtain ⟨rfl, N101q, H101⟩ := hQ101
 have N101 := Fr.app N0 N101q
 obtain ⟨cq102, kq102, q102a, q102b, q102c⟩ := isOf hZ H101 Es1
 obtain ⟨_, _, ⟨T102, L102, k102, n102⟩, -, X102, ⟨Lc102, hQ102, l102, y102, z102⟩, st102⟩ := X101.virtualBack hx (y := mN2) (z := mN2) hown (mvT hZ (tw hw 70 rfl)) (mvT hZ (tw hw 71 rfl)) (notFace_of_selects (args := #[]) (mvT hZ (tw hw 73 rfl))) (mvT hZ (tw hw 73 rfl)) (mvT hZ (tw hw 72 rfl)) (by decide) (backOf (W := 1) (rmLenL l Z a0 hw [] a1 bs t1 k1 cs0 h0 n0 O0 S_CS c_CS Es1 Sv1 Sc1 Vs1 (by omega)) hZ (tw hw 74 rfl) (tw hw 1 rfl) (by decide) (by decide)) q102a q102c (g := (mkF m 18 #[vR a1, vR a2] [(.ref a1), (.int (Int32.ofNat media.length))])) rfl (by rw [hml]; rfl) (Steps.refl _) (argsL := []) (rest := [(.int (Int32.ofNat media.length))]) (lenOf pd_14 rfl) rfl (wL _) (hb hby d29_18) (fun _ _ => ⟨rfl, H101, (by decide : 0 + 0 ≤ _), (by decide : 0 + 0 ≤ _)⟩)
 dsimp only [Pt.U, Pt.locs, Pt.cells, Pt.slots] at X102 l102 y102 z102 st102 hQ102
 rw [l102] at X102
 subst y102 z102
 obtain ⟨rfl, N102q, H102⟩ := hQ102
 have N102 := Fr.app N101 N102q
 obtain ⟨cq103, kq103, q103a, q103b, q103c⟩ := isOf hZ H102 Es1
 obtain ⟨_, _, ⟨T103, L103, k103, n103⟩, -, X103, ⟨Lc103, hQ103, l103, y103, z103⟩, st103⟩ := X102.virtualBack hx (y := mN2) (z := mN2) hown (mvT hZ (tw hw 70 rfl)) (mvT hZ (tw hw 71 rfl)) (notFace_of_selects (args := #[]) (mvT hZ (tw hw 73 rfl))) (mvT hZ (tw hw 73 rfl)) (mvT hZ (tw hw 72 rfl)) (by decide) (backOf (W := 5) (rmLenL l Z a0 hw [] a1 bs t1 k1 cs0 h0 n0 O0 S_CS c_CS Es1 Sv1 Sc1 Vs1 (by omega)) hZ (tw hw 74 rfl) (tw hw 1 rfl) (by decide) (by decide)) q103a q103c (g := (mkF m 30 #[vR a1, vR a2] [(.ref a1), (.int 0), (.ref a2), (.int 0), (.int 1), (.ref a1)])) rfl (by rw [hml]; rfl) (Steps.refl _) (argsL := []) (rest := [(.int 0), (.ref a2), (.int 0), (.int 1), (.ref a1)]) (lenOf pd_14 rfl) rfl (wL _) (hb hby d29_30) (fun _ _ => ⟨rfl, H102, (by decide : 0 + 0 ≤ _), (by decide : 0 + 0 ≤ _)⟩)
 dsimp only [Pt.U, Pt.locs, Pt.cells, Pt.slots] at X103 l103 y103 z103 st103 hQ103
 rw [l103] at X103
 subst y103 z103
 obtain ⟨rfl, N103q, H103⟩ := hQ103
 have N103 := Fr.app N102 N103q
 have hr104 : (Int32.ofNat bs.length) = (33 : Int32) := by rw [hl]; rfl
 obtain ⟨cq105, kq105, q105a, q105b, q105c⟩ := isOf hZ H103 Es1
 obtain ⟨_, _, ⟨T105, L105, k105, n105⟩, -, X105, ⟨Lc105, hQ105, l105, y105, z105⟩, st105⟩ := X103.virtualBack hx (y := mN31) (z := mN31) hown (mvT hZ (tw hw 132 rfl)) (mvT hZ (tw hw 133 rfl)) (notFace_of_selects (args := #[]) (mvT hZ (tw hw 135 rfl))) (mvT hZ (tw hw 135 rfl)) (mvT hZ (tw hw 134 rfl)) (by decide) (backOf (W := 0) (rmRgm l Z a0 hw [] a1 a2 bs cs0 t1 t2 k1 k2 h0 n0 O0 S_CS c_CS Es1 Sv1 Sc1 Vs1 Es2 Sv2 Sc2 Vs2 hl) hZ (tw hw 136 rfl) (tw hw 1 rfl) (by decide) (by decide)) q105a q105c (g := (mkF m 33 #[vR a1, vR a2] [(.int 33), (.int 0), (.ref a2), (.int 0), (.int 1), (.ref a1)])) rfl (by rw [hml]; rfl) (Steps.refl _) (argsL := [(.int 1), (.int 0), (.ref a2), (.int 0), (.int 33)]) (rest := []) (lenOf pd_21 rfl) rfl (wL _) (hb hby d29_33) (fun _ _ => ⟨rfl, H103, (by decide : 0 + 0 ≤ _), (by decide : 0 + 0 ≤ _)⟩)
 dsimp only [Pt.U, Pt.locs, Pt.cells, Pt.slots] at X105 l105 y105 z105 st105 hQ105
 rw [l105] at X105
 subst y105 z105
 obtain ⟨rfl, N105q, H105⟩ := hQ105
 have N105 := Fr.app N103 N105q
 have pre107 : ∀ t, SS p e below T105 m 36 #[vR a1, vR a2] [(.int (if allCI bs = true then (1 : Int32) else 0))] t → SE p e below s₁ m #[(.ref a1), (.ref a2)] 2 t := by
  intro t kt
  refine pre0 _ ?_
  show SS p e below s₁ m 0 #[vR a1, vR a2] [] _
  refine XS.aloadN X0.here hx rfl (hb hby d29_0) rfl rfl ?_
  refine XS.aloadN X0.here hx rfl (hb hby d29_1) rfl rfl ?_
  show SS p e below s₁ m 2 #[vR a1, vR a2] [(.ref a2), (.ref a1)] _
  refine Jvm.RoadKit.acmp (g := (mkF m 2 #[vR a1, vR a2] [(.ref a2), (.ref a1)])) X0 hx rfl rfl rfl (pc0 := 2) (pc' := 9) (same := false) rfl (hb hby d29_2) rfl (decide_eq_false fun q => hne (Value.ref.inj q)) (by decide) (by decide) ?_
  refine XS.aloadN X0.here hx rfl (hb hby d29_9) rfl rfl ?_
  refine XS.ifnullNo X0.here hx rfl (hb hby d29_10) rfl ?_
  refine XS.aloadN X0.here hx rfl (hb hby d29_13) rfl rfl ?_
  show SS p e below s₁ m 14 #[vR a1, vR a2] [(.ref a2)] _
  refine st101.trans ?_
  refine XS.aloadN X101.here hx rfl (hb hby d29_17) rfl rfl ?_
  show SS p e below T101 m 18 #[vR a1, vR a2] [(.ref a1), (.int (Int32.ofNat media.length))] _
  refine st102.trans ?_
  refine XS.icmpNo X102.here hx rfl (hb hby d29_21) rfl (teq (by rw [hl, own_medlen] : (Int32.ofNat media.length) = (Int32.ofNat bs.length))).2 ?_
  refine XS.aloadN X102.here hx rfl (hb hby d29_24) rfl rfl ?_
  refine XS.iconst X102.here hx rfl (hb hby d29_25) ?_
  refine XS.iconst X102.here hx rfl (hb hby d29_26) ?_
  refine XS.aloadN X102.here hx rfl (hb hby d29_27) rfl rfl ?_
  refine XS.iconst X102.here hx rfl (hb hby d29_28) ?_
  refine XS.aloadN X102.here hx rfl (hb hby d29_29) rfl rfl ?_
  show SS p e below T102 m 30 #[vR a1, vR a2] [(.ref a1), (.int 0), (.ref a2), (.int 0), (.int 1), (.ref a1)] _
  refine st103.trans ?_
  show SS p e below T103 m 33 #[vR a1, vR a2] [(.int (Int32.ofNat bs.length)), (.int 0), (.ref a2), (.int 0), (.int 1), (.ref a1)] _
  rw [hr104]
  show SS p e below T103 m 33 #[vR a1, vR a2] [(.int 33), (.int 0), (.ref a2), (.int 0), (.int 1), (.ref a1)] _
  refine st105.trans ?_
  exact kt
 by_cases hc106 : (if allCI bs = true then (1 : Int32) else 0) = (0 : Int32)
 ·skip
  obtain ⟨fs, hr, hrun, hended, hW, hsame⟩ := X105.leave (v := some (.int 0)) (nvr Bd.returns)
  refine ⟨_, _, pre107 _ ?_, hrun, hended, _, _, rfl, ?_, ⟨_, rfl⟩, hW, hsame.mono (by decide) (by decide)⟩
  ·skip
   show SS p e below T105 m 36 #[vR a1, vR a2] [(.int (if allCI bs = true then (1 : Int32) else 0))] _
   refine XS.ifYes X105.here hx rfl (pc0 := 36) (pc' := 43) rfl (hb hby d29_36) rfl ((if0 _ _).trans (teq hc106).1) (by decide) (by decide) ?_
   refine XS.iconst X105.here hx rfl (hb hby d29_43) ?_
   show SS p e below T105 m 44 #[vR a1, vR a2] [(.int 0)] _
   exact retN X105 hx (t := .boolean) Bd.returns (by simp) (hb hby d29_44) hr
  ·show Q_rmEqM Z a1 a2 bs cs0 t1 t2 k1 k2 h0 n0 _ T105.heap _
   rw [H105]
   exact ⟨by rw [eqR, if_neg (fun q => absurd (if_pos q.2 ▸ hc106) (by decide))], N105, rfl⟩
 ·skip
  obtain ⟨fs, hr, hrun, hended, hW, hsame⟩ := X105.leave (v := some (.int 1)) (nvr Bd.returns)
  refine ⟨_, _, pre107 _ ?_, hrun, hended, _, _, rfl, ?_, ⟨_, rfl⟩, hW, hsame.mono (by decide) (by decide)⟩
  ·skip
   show SS p e below T105 m 36 #[vR a1, vR a2] [(.int (if allCI bs = true then (1 : Int32) else 0))] _
   refine XS.ifNo X105.here hx rfl (hb hby d29_36) rfl ((if0 _ _).trans (feq hc106).1) ?_
   refine XS.iconst X105.here hx rfl (hb hby d29_39) ?_
   refine XS.goto X105.here hx rfl (pc0 := 40) (pc' := 44) rfl (hb hby d29_40) (by decide) (by decide) ?_
   show SS p e below T105 m 44 #[vR a1, vR a2] [(.int 1)] _
   exact retN X105 hx (t := .boolean) Bd.returns (by simp) (hb hby d29_44) hr
  ·show Q_rmEqM Z a1 a2 bs cs0 t1 t2 k1 k2 h0 n0 _ T105.heap _
   rw [H105]
   exact ⟨by rw [eqR, if_pos ⟨hl, Classical.byContradiction fun q => hc106 (if_neg q)⟩], N105, rfl⟩
theorem own_samestr {Z : State} {h : Heap} {a t1 t2 : Addr} {k1 k2 : ClassId} {bs : List Int32} (F1 : Fld Z h a "java/lang/String" "value" "[B" (.ref t1)) (F2 : Fld Z h a "java/lang/String" "value" "[B" (.ref t2)) (V1 : Arv Z h t1 k1 .byte (Int32.ofNat bs.length) (bs.map Value.int) (.int 0)) (V2 : Arv Z h t2 k2 .byte (Int32.ofNat media.length) (media.map Value.int) (.int 0)) (hn : bs.length < 2 ^ 31) : bs = media := by
 have e : t1 = t2 := Classical.byContradiction fun q => Fld.ne F1 F2 (fun z => q (Value.ref.inj z)) rfl
 subst e
 obtain ⟨c1, A1, -, S1, -, H1, -⟩ := V1
 obtain ⟨c2, A2, -, S2, -, H2, -⟩ := V2
 have ec : c1 = c2 := Option.some.inj (A1.1.symm.trans A2.1)
 subst ec
 rw [own_nat hn] at S1
 rw [own_nat (by rw [own_medlen]; decide)] at S2
 apply List.ext_getElem (by omega)
 intro j h1 h2
 have q1 := H1 j (by omega)
 have q2 := H2 j (by omega)
 have q := Option.some.inj (q1.symm.trans q2)
 rw [own_getDk _ h1, own_getDk _ h2] at q
 have := Value.int.inj q
 simpa [List.getD_eq_getElem?_getD, h1, h2] using this
theorem own_eqRm : eqR media = 1 := own_eqR own_medlen own_med1
def Q_rmEqi (Z : State) (a1 a2 : Addr) (bs : List Int32) (cs0 : Int32) (t1 t2 : Addr) (k1 k2 : ClassId) (h0 : Heap) (n0 : Nat) (v : Option Value) (h : Heap) (L : List Loc) : Prop := v = some (.int (eqR bs)) ∧ Fr n0 L ∧ h = h0
theorem rmEqi (l : Launch) (Z : State) (a0 : Array Value) (hw : HW a0 Z) (ws : List Jvm.Cond) (a1 a2 : Addr) (bs : List Int32) (cs0 : Int32) (t1 t2 : Addr) (k1 k2 : ClassId) (h0 : Heap) (n0 : Nat) (O0 : Old Z n0 h0) (S_CS : SCS Z cs0) (c_CS : ¬ (cs0 = (0 : Int32))) (Es1 : Exa Z h0 a1 "java/lang/String") (Sv1 : Fld Z h0 a1 "java/lang/String" "value" "[B" (.ref t1)) (Sc1 : Fld Z h0 a1 "java/lang/String" "coder" "B" (.int 0)) (Vs1 : Arv Z h0 t1 k1 .byte (Int32.ofNat bs.length) (bs.map Value.int) (.int 0)) (Es2 : Exa Z h0 a2 "java/lang/String") (Sv2 : Fld Z h0 a2 "java/lang/String" "value" "[B" (.ref t2)) (Sc2 : Fld Z h0 a2 "java/lang/String" "coder" "B" (.int 0)) (Vs2 : Arv Z h0 t2 k2 .byte (Int32.ofNat media.length) (media.map Value.int) (.int 0)) (hn : bs.length ≤ 40) :
  MF l mN32 jdk_42_method_70_code 2 (some .boolean) ws (Rm 3 0 0 80) Z #[(.ref a1), (.ref a2)] h0 (Q_rmEqi Z a1 a2 bs cs0 t1 t2 k1 k2 h0 n0) := by
 by_cases hne : @Eq Nat a1 a2
 ·have e : a1 = a2 := hne
  subst e
  have eb := own_samestr Sv1 Sv2 Vs1 Vs2 (by omega)
  unfold Q_rmEqi; rw [eb, own_eqRm]
  exact rmEqS l Z a0 hw ws a1 h0 n0 O0
 ·by_cases hl : bs.length = 33
  ·exact rmEqM l Z a0 hw ws a1 a2 bs cs0 t1 t2 k1 k2 h0 n0 O0 S_CS c_CS Es1 Sv1 Sc1 Vs1 Es2 Sv2 Sc2 Vs2 hn hne hl
  ·exact rmEqD l Z a0 hw ws a1 a2 bs cs0 t1 t2 k1 k2 h0 n0 O0 S_CS c_CS Es1 Sv1 Sc1 Vs1 Es2 Sv2 Sc2 Vs2 hn hne hl
theorem d12_0 : DK cD33 0 (.aload_n 0) 1 := by decide +kernel
theorem d12_1 : DK cD33 1 (.ifnonnull 5) 3 := by decide +kernel
theorem d12_4 : DK cD33 4 (.iconst 0) 1 := by decide +kernel
theorem d12_5 : DK cD33 5 (.ireturn) 1 := by decide +kernel
theorem pn_12 : plainName "com/example/brisk_hub/briskhub/http/Form" = true := by first | (simp [plainName, overriddenIn]; done) | decide +kernel
theorem ef_rmIfN (m : MethodId) : entryFrame m #[.null] 3 = (mkF m 0 #[.val .null, .unset, .unset] []) := by first | (simp [entryFrame, mkF, argsToLocals, Value.category]; done) | rfl
def Q_rmIfN (Z : State)  (h0 : Heap) (n0 : Nat) (v : Option Value) (h : Heap) (L : List Loc) : Prop := v = some (.int 0) ∧ Fr n0 L ∧ h = h0
theorem rmIfN (l : Launch) (Z : State) (a0 : Array Value) (hw : HW a0 Z) (ws : List Jvm.Cond)  (h0 : Heap) (n0 : Nat) (O0 : Old Z n0 h0) :
  MF l mN33 prog_5_method_2_code 3 (some .boolean) ws (Rm 0 0 0 0) Z #[.null] h0 (Q_rmIfN Z  h0 n0) := by
 refine MetFree.of_bodySF (plainFor_of_name pn_12) hisR ?_
 intro p e s m args below meth c s₁ Bd hml0 hP hK
 obtain ⟨rfl, hZ, hh⟩ := hP
 have hx := Bd.exec
 have hby := Bd.bytes
 have hml : c.maxLocals = 3 := hml0
 have hown : s.vm.findClass "com/example/brisk_hub/briskhub/http/Form" = some m.cls := findClass_of_methodNamed Bd.named
 have X0 : Stand p l e (Rm 0 0 0 0) s m #[.null] below meth c s₁ [] 0 0 := Stand.of_body Bd
 have e0 : s₁.heap = h0 := by rw [← hh, Bd.state]; rfl
 have N0 := Fr.nil n0
 have hn0 : n0 ≤ h0.size := O0.1 ▸ O0.2.1
 have pre0 : ∀ t, SS p e below s₁ m 0 #[.val .null, .unset, .unset] [] t → SE p e below s₁ m #[.null] 3 t := fun t k => castTop (ef_rmIfN m ) k
 obtain ⟨fs, hr, hrun, hended, hW, hsame⟩ := X0.leave (v := some (.int 0)) (nvr Bd.returns)
 refine ⟨_, _, pre0 _ ?_, hrun, hended, _, _, rfl, ?_, ⟨_, rfl⟩, hW, hsame.mono (by decide) (by decide)⟩
 ·skip
  show SS p e below s₁ m 0 #[.val .null, .unset, .unset] [] _
  refine XS.aloadN X0.here hx rfl (hb hby d12_0) rfl rfl ?_
  refine XS.ifnonnullNo X0.here hx rfl (hb hby d12_1) rfl ?_
  refine XS.iconst X0.here hx rfl (hb hby d12_4) ?_
  show SS p e below s₁ m 5 #[.val .null, .unset, .unset] [(.int 0)] _
  exact retN X0 hx (t := .boolean) Bd.returns (by simp) (hb hby d12_5) hr
 ·show Q_rmIfN Z  h0 n0 _ s₁.heap _
  rw [e0]
  exact ⟨rfl, N0, rfl⟩
theorem d12_6 : DK cD33 6 (.aload_n 0) 1 := by decide +kernel
theorem d12_7 : DK cD33 7 (.bipush 59) 2 := by decide +kernel
theorem d12_9 : DK cD33 9 (.invokevirtual 13) 3 := by decide +kernel
theorem d12_12 : DK cD33 12 (.istore_n 1) 1 := by decide +kernel
theorem d12_13 : DK cD33 13 (.iload_n 1) 1 := by decide +kernel
theorem d12_14 : DK cD33 14 (.ifCond .ge 7) 3 := by decide +kernel
theorem d12_17 : DK cD33 17 (.aload_n 0) 1 := by decide +kernel
theorem d12_18 : DK cD33 18 (.goto 9) 3 := by decide +kernel
theorem d12_21 : DK cD33 21 (.aload_n 0) 1 := by decide +kernel
theorem d12_22 : DK cD33 22 (.iconst 0) 1 := by decide +kernel
theorem d12_23 : DK cD33 23 (.iload_n 1) 1 := by decide +kernel
theorem d12_24 : DK cD33 24 (.invokevirtual 19) 3 := by decide +kernel
theorem d12_27 : DK cD33 27 (.astore_n 2) 1 := by decide +kernel
theorem d12_28 : DK cD33 28 (.aload_n 2) 1 := by decide +kernel
theorem d12_29 : DK cD33 29 (.invokevirtual 23) 3 := by decide +kernel
theorem d12_32 : DK cD33 32 (.ldc 27) 2 := by decide +kernel
theorem d12_34 : DK cD33 34 (.invokevirtual 29) 3 := by decide +kernel
theorem d12_37 : DK cD33 37 (.ireturn) 1 := by decide +kernel
theorem pd_30 : parseMethodDescriptor "(II)Ljava/lang/String;" = some ⟨[.int, .int], some (.object "java/lang/String")⟩ := by decide +kernel
theorem pd_18 : parseMethodDescriptor "()Ljava/lang/String;" = some ⟨[], some (.object "java/lang/String")⟩ := by decide +kernel
theorem pd_11 : parseMethodDescriptor "(Ljava/lang/String;)Z" = some ⟨[(.object "java/lang/String")], some .boolean⟩ := by decide +kernel
theorem ef_rmIsf (m : MethodId) (y0 : Addr) : entryFrame m #[(.ref y0)] 3 = (mkF m 0 #[vR y0, .unset, .unset] []) := by first | (simp [entryFrame, mkF, argsToLocals, Value.category]; done) | rfl
def Q_rmIsf (Z : State) (a1 : Addr) (bs : List Int32) (cs0 : Int32) (t1 : Addr) (k1 : ClassId) (fm : Value) (cin ta : Addr) (kA : ClassId) (h0 : Heap) (n0 : Nat) (v : Option Value) (h : Heap) (L : List Loc) : Prop := v = some (.int (isF bs)) ∧ Fr n0 L ∧ Keep h0 h []
theorem rmIsf (l : Launch) (Z : State) (a0 : Array Value) (hw : HW a0 Z) (ws : List Jvm.Cond) (a1 : Addr) (bs : List Int32) (cs0 : Int32) (t1 : Addr) (k1 : ClassId) (fm : Value) (cin ta : Addr) (kA : ClassId) (h0 : Heap) (n0 : Nat) (O0 : Old Z n0 h0) (S_CS : SCS Z cs0) (c_CS : ¬ (cs0 = (0 : Int32))) (Es : Exa Z h0 a1 "java/lang/String") (Sv : Fld Z h0 a1 "java/lang/String" "value" "[B" (.ref t1)) (Sc : Fld Z h0 a1 "java/lang/String" "coder" "B" (.int 0)) (Vs : Arv Z h0 t1 k1 .byte (Int32.ofNat bs.length) (bs.map Value.int) (.int 0)) (hn : bs.length ≤ 40) (h0n : 0 < bs.length) (S_FM : SFM Z fm) (r_FM : fm.isRef = true) (S_IN : Sta Z Z.heap "java/lang/CharacterDataLatin1" "instance" "Ljava/lang/CharacterDataLatin1;" (.ref cin)) (E_IN : Exa Z Z.heap cin "java/lang/CharacterDataLatin1") (S_A : Sta Z Z.heap "java/lang/CharacterDataLatin1" "A" "[I" (.ref ta)) (V_A : Arv Z Z.heap ta kA .int (256 : Int32) (tabA.map Value.int) (.int 0)) :
  MetFree l mN33 (head1 (Jvm.Cond.code mN33 prog_5_method_2_code 3 (some .boolean) :: ws) (Rm 6 12 236 180)) (fun a U => a = #[(.ref a1)] ∧ Z.Warmed39 U.vm ∧ U.heap = h0 ∧ CHv Z EL1 U.vm h0) (fun _ _ _ _ _ => True) (fun _ U o U' => ∃ v L, o = .returned v ∧ Q_rmIsf Z a1 bs cs0 t1 k1 fm cin ta kA h0 n0 v U'.heap L ∧ CHr Z EL1 U.vm U.heap U'.vm U'.heap ∧ ReturnedEndW U o U' L (Rm 6 12 236 180).cells (Rm 6 12 236 180).slots) := by
 refine MetFree.of_bodySF (plainFor_of_name pn_12) hisR ?_
 intro p e s m args below meth c s₁ Bd hml0 hP hK
 obtain ⟨rfl, hZ, hh, hCH⟩ := hP
 have hx := Bd.exec
 have hby := Bd.bytes
 have hml : c.maxLocals = 3 := hml0
 have hown : s.vm.findClass "com/example/brisk_hub/briskhub/http/Form" = some m.cls := findClass_of_methodNamed Bd.named
 have X0 : Stand p l e (Rm 6 12 236 180) s m #[(.ref a1)] below meth c s₁ [] 0 0 := Stand.of_body Bd
 have e0 : s₁.heap = h0 := by rw [← hh, Bd.state]; rfl
 have N0 := Fr.nil n0
 have hn0 : n0 ≤ h0.size := O0.1 ▸ O0.2.1
 have CR0 := CHr.refl hCH
 have hS0 : s.Since s.vm h0.size := (State.WarmedH.refl s).since _
 have pre0 : ∀ t, SS p e below s₁ m 0 #[vR a1, .unset, .unset] [] t → SE p e below s₁ m #[(.ref a1)] 3 t := fun t k => castTop (ef_rmIsf m a1) k
 have wStr : ∀ d ∈ Bundle.stringAtoms, d.before a0 Z = true := fun d hd => hw d ((by decide +kernel : ∀ d ∈ Bundle.stringAtoms, d ∈ tables_1) d hd)
 have hEW : EW Z a0 EL1 := EW.cons (tw hw 126 rfl) (by decide) (EW.cons (tw hw 0 rfl) (by decide) (EW.cons (tw hw 184 rfl) (by decide) EW.nil))
 have lt_a1 : @LT.lt Nat _ a1 h0.size := Es.lt
 have lt_t1 : @LT.lt Nat _ t1 h0.size := Vs.lt
 obtain ⟨m1, em1⟩ : ∃ m, m = (preL bs).length := ⟨_, rfl⟩
 have hP := own_prefacts bs
 rw [← em1] at hP
 obtain ⟨hpre, hm, hend, hpt⟩ := hP
 obtain ⟨cq101, kq101, q101a, q101b, q101c⟩ := isOf hZ e0 Es
 obtain ⟨_, _, ⟨T101, L101, k101, n101⟩, -, X101, ⟨Lc101, hQ101, l101, y101, z101⟩, st101⟩ := X0.virtualBack hx (y := mN14) (z := mN14) hown (mvT hZ (tw hw 60 rfl)) (mvT hZ (tw hw 61 rfl)) (notFace_of_selects (args := #[]) (mvT hZ (tw hw 63 rfl))) (mvT hZ (tw hw 63 rfl)) (mvT hZ (tw hw 62 rfl)) (by decide) (backOf (W := 0) (rmIx1 l Z a0 hw [] a1 bs cs0 t1 k1 m1 h0 n0 O0 S_CS c_CS Es Sv Sc Vs hn hm hpre hend h0n) hZ (tw hw 64 rfl) (tw hw 1 rfl) (by decide) (by decide)) q101a q101c (g := (mkF m 9 #[vR a1, .unset, .unset] [(.int 59), (.ref a1)])) rfl (by rw [hml]; rfl) (Steps.refl _) (argsL := [(.int 59)]) (rest := []) (lenOf pd_12 rfl) rfl (wL _) (hb hby d12_9) (fun _ _ => ⟨rfl, e0, (by decide : 0 + 0 ≤ _), (by decide : 0 + 0 ≤ _)⟩)
 dsimp only [Pt.U, Pt.locs, Pt.cells, Pt.slots] at X101 l101 y101 z101 st101 hQ101
 rw [l101] at X101
 subst y101 z101
 obtain ⟨rfl, N101q, H101⟩ := hQ101
 have N101 := Fr.app N0 N101q
 have pre102 : ∀ t, SS p e below T101 m 12 #[vR a1, .unset, .unset] [(.int (if m1 < bs.length then Int32.ofNat m1 else (-1 : Int32)))] t → SE p e below s₁ m #[(.ref a1)] 3 t := by
  intro t kt
  refine pre0 _ ?_
  show SS p e below s₁ m 0 #[vR a1, .unset, .unset] [] _
  refine XS.aloadN X0.here hx rfl (hb hby d12_0) rfl rfl ?_
  refine XS.ifnonnullYes X0.here hx rfl (pc0 := 1) (pc' := 6) rfl (hb hby d12_1) rfl (by decide) (by decide) ?_
  refine XS.aloadN X0.here hx rfl (hb hby d12_6) rfl rfl ?_
  refine XS.bipush X0.here hx rfl (hb hby d12_7) ?_
  show SS p e below s₁ m 9 #[vR a1, .unset, .unset] [(.int 59), (.ref a1)] _
  refine st101.trans ?_
  exact kt
 by_cases hlt : m1 < bs.length
 ·skip
  have hr103 : (if m1 < bs.length then Int32.ofNat m1 else (-1 : Int32)) = (Int32.ofNat m1) := if_pos hlt
  obtain ⟨cq104, kq104, q104a, q104b, q104c⟩ := isOf hZ H101 Es
  obtain ⟨_, _, ⟨T104, L104, k104, n104⟩, -, X104q, hSq104, hgr104, ⟨Lc104, hQ104, l104, y104, z104, cr104⟩, st104⟩ := X101.virtualBackS hx (y := mN22) (z := mN22) hown (mvT hZ (tw hw 172 rfl)) (mvT hZ (tw hw 173 rfl)) (notFace_of_selects (args := #[]) (mvT hZ (tw hw 175 rfl))) (mvT hZ (tw hw 175 rfl)) (mvT hZ (tw hw 174 rfl)) (by decide) (backOfSH (s := s) (vm0 := s.vm) (EL := EL1) (W := 0) (rmSub l Z a0 hw [] a1 bs cs0 t1 k1 m1 fm h0 n0 O0 S_CS c_CS Es Sv Sc Vs hn hlt S_FM r_FM) hZ (tw hw 176 rfl) (tw hw 1 rfl) (by decide) (by decide) hEW CR0.1) q104a q104c (g := (mkF m 24 #[vR a1, vI (Int32.ofNat m1), .unset] [(.int (Int32.ofNat m1)), (.int 0), (.ref a1)])) rfl (by rw [hml]; rfl) (Steps.refl _) (argsL := [(.int 0), (.int (Int32.ofNat m1))]) (rest := []) (lenOf pd_30 rfl) rfl (wL _) (hb hby d12_24) (fun _ _ => ⟨rfl, H101, (by decide : 0 + 4 ≤ _), (by decide : 0 + 48 ≤ _)⟩)
  dsimp only [Pt.U, Pt.locs, Pt.cells, Pt.slots] at X104q l104 y104 z104 st104 hQ104 hSq104 hgr104 cr104
  rw [l104] at X104q
  subst y104 z104
  obtain ⟨X104, hS104, hZ104, hown104⟩ := rebS (s := s) (vm0 := s.vm) hS0 (by rw [H101]; omega) X104q hSq104 hgr104 hZ hown
  obtain ⟨y104, t104, kb104, rfl, N104q, K104, Es104, Sv104, Sc104, Vs104⟩ := hQ104
  have lty104 : @LT.lt Nat _ y104 T104.heap.size := Es104.lt
  have ltt104 : @LT.lt Nat _ t104 T104.heap.size := Vs104.lt
  have cR1_K104 := CR0.trans cr104
  have sz1_K104 := K104.1
  have N104 := Fr.app N101 N104q
  have O106 : Old Z n0 T104.heap := O0.keep K104 all0
  obtain ⟨cq105, kq105, q105a, q105b, q105c⟩ := isOf hZ104 rfl Es104
  obtain ⟨_, _, ⟨T105, L105, k105, n105⟩, -, X105q, hSq105, hgr105, ⟨Lc105, hQ105, l105, y105, z105, cr105⟩, st105⟩ := X104.virtualBackS hx (y := mN28) (z := mN28) hown104 (mvT hZ104 (tw hw 96 rfl)) (mvT hZ104 (tw hw 97 rfl)) (notFace_of_selects (args := #[]) (mvT hZ104 (tw hw 99 rfl))) (mvT hZ104 (tw hw 99 rfl)) (mvT hZ104 (tw hw 98 rfl)) (by decide) (backOfSH (s := s) (vm0 := T104.vm) (EL := EL1) (W := 0) (rmSt l Z a0 hw [] y104 (bs.take m1) cs0 t104 kb104 cin ta kA T104.heap n0 O106 S_CS c_CS Es104 Sv104 Sc104 Vs104 (by rw [List.length_take]; omega) S_IN E_IN S_A V_A) hZ104 (tw hw 100 rfl) (tw hw 1 rfl) (by decide) (by decide) hEW cR1_K104.1) q105a q105c (g := (mkF m 29 #[vR a1, vI (Int32.ofNat m1), vR y104] [(.ref y104)])) rfl (by rw [hml]; rfl) (Steps.refl _) (argsL := []) (rest := []) (lenOf pd_18 rfl) rfl (wL _) (hb hby d12_29) (fun _ _ => ⟨rfl, rfl, (by decide : 4 + 6 ≤ _), (by decide : 48 + 52 ≤ _)⟩)
  dsimp only [Pt.U, Pt.locs, Pt.cells, Pt.slots] at X105q l105 y105 z105 st105 hQ105 hSq105 hgr105 cr105
  rw [l105] at X105q
  subst y105 z105
  obtain ⟨X105, hS105, hZ105, hown105⟩ := rebS (s := s) (vm0 := T104.vm) hS104 (by omega) X105q hSq105 hgr105 hZ104 hown104
  obtain ⟨y105, t105, kb105, rfl, N105q, K105, Es105, Sv105, Sc105, Vs105⟩ := hQ105
  have lty105 : @LT.lt Nat _ y105 T105.heap.size := Es105.lt
  have ltt105 : @LT.lt Nat _ t105 T105.heap.size := Vs105.lt
  have cR2_K105 := cR1_K104.trans cr105
  have sz2_K105 := K105.1
  have N105 := Fr.app N104 N105q
  obtain ⟨b107, T107, h107, k107, t107, kb107, X107, e107, E107, hS107, hk107, hZ107, hown107, Ea107, Fc107, Fv107, Av107, la107, lb107, CR107, Li107, nq107, st107⟩ := ldcCH (s := s) (vm0 := T105.vm) X105 hx hZ105 hown105 (tw hw 126 rfl) wStr rfl hS105 (by omega) hEW (by simp [EL1]) cR2_K105.1 (vs := (([97, 112, 112, 108, 105, 99, 97, 116, 105, 111, 110, 47, 120, 45, 119, 119, 119, 45, 102, 111, 114, 109, 45, 117, 114, 108, 101, 110, 99, 111, 100, 101, 100] : List Int32).map Value.int)) (z := (Int32.ofNat ([97, 112, 112, 108, 105, 99, 97, 116, 105, 111, 110, 47, 120, 45, 119, 119, 119, 45, 102, 111, 114, 109, 45, 117, 114, 108, 101, 110, 99, 111, 100, 101, 100] : List Int32).length)) ⟨by decide, by decide⟩ (by decide) (by decide) (g := (mkF m 32 #[vR a1, vI (Int32.ofNat m1), vR y104] [(.ref y105)])) rfl (hb hby d12_32) (n := 132) (by decide) (by decide) (by decide) (by decide)
  have lta107 : @LT.lt Nat _ b107 h107.size := la107
  have ltb107 : @LT.lt Nat _ t107 h107.size := lb107
  have K107 : Keep T105.heap h107 [] := (Keep.refl _ _).ext E107
  have cR3_K107 := cR2_K105.trans CR107
  have sz3_K107 := K107.1
  have C109 := Es105.keep K107
  have C110 := Sv105.keep K107 nin0
  have C111 := Sc105.keep K107 nin0
  have C112 := Vs105.keep K107 nin0
  have O113 : Old Z n0 T105.heap := O106.keep K105 all0
  have O114 : Old Z n0 h107 := O113.keep K107 all0
  obtain ⟨cq108, kq108, q108a, q108b, q108c⟩ := isOf hZ107 e107 C109
  obtain ⟨_, _, ⟨T108, L108, k108, n108⟩, -, X108, ⟨Lc108, hQ108, l108, y108, z108⟩, st108⟩ := X107.virtualBack hx (y := mN32) (z := mN32) hown107 (mvT hZ107 (tw hw 127 rfl)) (mvT hZ107 (tw hw 128 rfl)) (notFace_of_selects (args := #[]) (mvT hZ107 (tw hw 130 rfl))) (mvT hZ107 (tw hw 130 rfl)) (mvT hZ107 (tw hw 129 rfl)) (by decide) (backOf (W := 0) (rmEqi l Z a0 hw [] y105 b107 (stripL (bs.take m1)) cs0 t105 t107 kb105 kb107 h107 n0 O114 S_CS c_CS C109 C110 C111 C112 Ea107 Fv107 Fc107 Av107 (Nat.le_trans (own_striplen _) (by rw [List.length_take]; omega))) hZ107 (tw hw 131 rfl) (tw hw 1 rfl) (by decide) (by decide)) q108a q108c (g := (mkF m 34 #[vR a1, vI (Int32.ofNat m1), vR y104] [(.ref b107), (.ref y105)])) rfl (by rw [hml]; rfl) (Steps.refl _) (argsL := [(.ref b107)]) (rest := []) (lenOf pd_11 rfl) rfl (wL _) (hb hby d12_34) (fun _ _ => ⟨rfl, e107, (by decide : 12 + 0 ≤ _), (by decide : 236 + 0 ≤ _)⟩)
  dsimp only [Pt.U, Pt.locs, Pt.cells, Pt.slots] at X108 l108 y108 z108 st108 hQ108
  rw [l108] at X108
  subst y108 z108
  obtain ⟨rfl, N108q, H108⟩ := hQ108
  have N108 := Fr.app N105 N108q
  have KC115 : Keep h0 T104.heap [] := (Keep.refl h0 []).trans K104 (all0)
  have KC116 : Keep h0 T105.heap [] := KC115.trans K105 (all0)
  have KC117 : Keep h0 h107 [] := KC116.trans K107 (all0)
  obtain ⟨fs, hr, hrun, hended, eR, eW, eI, eS⟩ := Stand.leaveW (s := s) (vm₁ := T107.vm) X108 hS107 (by rw [H108]; omega) (v := some (.int (nar .boolean (eqR (stripL (bs.take m1)))))) (nvr Bd.returns)
  refine ⟨_, _, pre102 _ ?_, hrun, hended, _, _, rfl, ?_, ?_, eR, eW, eI, eS.mono (by decide) (by decide)⟩
  ·skip
   show SS p e below T101 m 12 #[vR a1, .unset, .unset] [(.int (if m1 < bs.length then Int32.ofNat m1 else (-1 : Int32)))] _
   rw [hr103]
   refine XS.istoreN X101.here hx rfl (hb hby d12_12) rfl (l' := #[vR a1, vI (Int32.ofNat m1), .unset]) rfl ?_
   refine XS.iloadN X101.here hx rfl (hb hby d12_13) rfl ?_
   refine XS.ifYes X101.here hx rfl (pc0 := 14) (pc' := 21) rfl (hb hby d12_14) rfl ((if0 _ _).trans (flt (own_nn (by omega) : ¬ ((Int32.ofNat m1) < (0 : Int32)))).2.1) (by decide) (by decide) ?_
   refine XS.aloadN X101.here hx rfl (hb hby d12_21) rfl rfl ?_
   refine XS.iconst X101.here hx rfl (hb hby d12_22) ?_
   refine XS.iloadN X101.here hx rfl (hb hby d12_23) rfl ?_
   show SS p e below T101 m 24 #[vR a1, vI (Int32.ofNat m1), .unset] [(.int (Int32.ofNat m1)), (.int 0), (.ref a1)] _
   refine st104.trans ?_
   refine XS.astoreN X104.here hx rfl (hb hby d12_27) rfl rfl (l' := #[vR a1, vI (Int32.ofNat m1), vR y104]) rfl ?_
   refine XS.aloadN X104.here hx rfl (hb hby d12_28) rfl rfl ?_
   show SS p e below T104 m 29 #[vR a1, vI (Int32.ofNat m1), vR y104] [(.ref y104)] _
   refine st105.trans ?_
   show SS p e below T105 m 32 #[vR a1, vI (Int32.ofNat m1), vR y104] [(.ref y105)] _
   refine st107 _ ?_
   show SS p e below T107 m 34 #[vR a1, vI (Int32.ofNat m1), vR y104] [(.ref b107), (.ref y105)] _
   refine st108.trans ?_
   show SS p e below T108 m 37 #[vR a1, vI (Int32.ofNat m1), vR y104] [(.int (eqR (stripL (bs.take m1))))] _
   exact retN X108 hx (t := .boolean) Bd.returns (by simp) (hb hby d12_37) hr
  ·show Q_rmIsf Z a1 bs cs0 t1 k1 fm cin ta kA h0 n0 _ T108.heap _
   rw [H108]
   exact ⟨by rw [own_eqR01, isF, hpt], N108, KC117⟩
  ·show CHr Z EL1 s.vm s.heap T108.vm T108.heap
   rw [hh, H108]
   exact cR3_K107.trans (CHv.at (s := s) (vm0 := T107.vm) X108 hZ107 hEW cR3_K107.1)
 ·skip
  have hr118 : (if m1 < bs.length then Int32.ofNat m1 else (-1 : Int32)) = (-1 : Int32) := if_neg hlt
  obtain ⟨cq119, kq119, q119a, q119b, q119c⟩ := isOf hZ H101 Es
  obtain ⟨_, _, ⟨T119, L119, k119, n119⟩, -, X119q, hSq119, hgr119, ⟨Lc119, hQ119, l119, y119, z119, cr119⟩, st119⟩ := X101.virtualBackS hx (y := mN28) (z := mN28) hown (mvT hZ (tw hw 96 rfl)) (mvT hZ (tw hw 97 rfl)) (notFace_of_selects (args := #[]) (mvT hZ (tw hw 99 rfl))) (mvT hZ (tw hw 99 rfl)) (mvT hZ (tw hw 98 rfl)) (by decide) (backOfSH (s := s) (vm0 := s.vm) (EL := EL1) (W := 0) (rmSt l Z a0 hw [] a1 bs cs0 t1 k1 cin ta kA h0 n0 O0 S_CS c_CS Es Sv Sc Vs hn S_IN E_IN S_A V_A) hZ (tw hw 100 rfl) (tw hw 1 rfl) (by decide) (by decide) hEW CR0.1) q119a q119c (g := (mkF m 29 #[vR a1, vI (-1 : Int32), vR a1] [(.ref a1)])) rfl (by rw [hml]; rfl) (Steps.refl _) (argsL := []) (rest := []) (lenOf pd_18 rfl) rfl (wL _) (hb hby d12_29) (fun _ _ => ⟨rfl, H101, (by decide : 0 + 6 ≤ _), (by decide : 0 + 52 ≤ _)⟩)
  dsimp only [Pt.U, Pt.locs, Pt.cells, Pt.slots] at X119q l119 y119 z119 st119 hQ119 hSq119 hgr119 cr119
  rw [l119] at X119q
  subst y119 z119
  obtain ⟨X119, hS119, hZ119, hown119⟩ := rebS (s := s) (vm0 := s.vm) hS0 (by rw [H101]; omega) X119q hSq119 hgr119 hZ hown
  obtain ⟨y119, t119, kb119, rfl, N119q, K119, Es119, Sv119, Sc119, Vs119⟩ := hQ119
  have lty119 : @LT.lt Nat _ y119 T119.heap.size := Es119.lt
  have ltt119 : @LT.lt Nat _ t119 T119.heap.size := Vs119.lt
  have cR1_K119 := CR0.trans cr119
  have sz1_K119 := K119.1
  have N119 := Fr.app N101 N119q
  obtain ⟨b120, T120, h120, k120, t120, kb120, X120, e120, E120, hS120, hk120, hZ120, hown120, Ea120, Fc120, Fv120, Av120, la120, lb120, CR120, Li120, nq120, st120⟩ := ldcCH (s := s) (vm0 := T119.vm) X119 hx hZ119 hown119 (tw hw 126 rfl) wStr rfl hS119 (by omega) hEW (by simp [EL1]) cR1_K119.1 (vs := (([97, 112, 112, 108, 105, 99, 97, 116, 105, 111, 110, 47, 120, 45, 119, 119, 119, 45, 102, 111, 114, 109, 45, 117, 114, 108, 101, 110, 99, 111, 100, 101, 100] : List Int32).map Value.int)) (z := (Int32.ofNat ([97, 112, 112, 108, 105, 99, 97, 116, 105, 111, 110, 47, 120, 45, 119, 119, 119, 45, 102, 111, 114, 109, 45, 117, 114, 108, 101, 110, 99, 111, 100, 101, 100] : List Int32).length)) ⟨by decide, by decide⟩ (by decide) (by decide) (g := (mkF m 32 #[vR a1, vI (-1 : Int32), vR a1] [(.ref y119)])) rfl (hb hby d12_32) (n := 132) (by decide) (by decide) (by decide) (by decide)
  have lta120 : @LT.lt Nat _ b120 h120.size := la120
  have ltb120 : @LT.lt Nat _ t120 h120.size := lb120
  have K120 : Keep T119.heap h120 [] := (Keep.refl _ _).ext E120
  have cR2_K120 := cR1_K119.trans CR120
  have sz2_K120 := K120.1
  have C122 := Es119.keep K120
  have C123 := Sv119.keep K120 nin0
  have C124 := Sc119.keep K120 nin0
  have C125 := Vs119.keep K120 nin0
  have O126 : Old Z n0 T119.heap := O0.keep K119 all0
  have O127 : Old Z n0 h120 := O126.keep K120 all0
  obtain ⟨cq121, kq121, q121a, q121b, q121c⟩ := isOf hZ120 e120 C122
  obtain ⟨_, _, ⟨T121, L121, k121, n121⟩, -, X121, ⟨Lc121, hQ121, l121, y121, z121⟩, st121⟩ := X120.virtualBack hx (y := mN32) (z := mN32) hown120 (mvT hZ120 (tw hw 127 rfl)) (mvT hZ120 (tw hw 128 rfl)) (notFace_of_selects (args := #[]) (mvT hZ120 (tw hw 130 rfl))) (mvT hZ120 (tw hw 130 rfl)) (mvT hZ120 (tw hw 129 rfl)) (by decide) (backOf (W := 0) (rmEqi l Z a0 hw [] y119 b120 (stripL bs) cs0 t119 t120 kb119 kb120 h120 n0 O127 S_CS c_CS C122 C123 C124 C125 Ea120 Fv120 Fc120 Av120 (Nat.le_trans (own_striplen _) hn)) hZ120 (tw hw 131 rfl) (tw hw 1 rfl) (by decide) (by decide)) q121a q121c (g := (mkF m 34 #[vR a1, vI (-1 : Int32), vR a1] [(.ref b120), (.ref y119)])) rfl (by rw [hml]; rfl) (Steps.refl _) (argsL := [(.ref b120)]) (rest := []) (lenOf pd_11 rfl) rfl (wL _) (hb hby d12_34) (fun _ _ => ⟨rfl, e120, (by decide : 8 + 0 ≤ _), (by decide : 188 + 0 ≤ _)⟩)
  dsimp only [Pt.U, Pt.locs, Pt.cells, Pt.slots] at X121 l121 y121 z121 st121 hQ121
  rw [l121] at X121
  subst y121 z121
  obtain ⟨rfl, N121q, H121⟩ := hQ121
  have N121 := Fr.app N119 N121q
  have KC128 : Keep h0 T119.heap [] := (Keep.refl h0 []).trans K119 (all0)
  have KC129 : Keep h0 h120 [] := KC128.trans K120 (all0)
  obtain ⟨fs, hr, hrun, hended, eR, eW, eI, eS⟩ := Stand.leaveW (s := s) (vm₁ := T120.vm) X121 hS120 (by rw [H121]; omega) (v := some (.int (nar .boolean (eqR (stripL bs))))) (nvr Bd.returns)
  refine ⟨_, _, pre102 _ ?_, hrun, hended, _, _, rfl, ?_, ?_, eR, eW, eI, eS.mono (by decide) (by decide)⟩
  ·skip
   show SS p e below T101 m 12 #[vR a1, .unset, .unset] [(.int (if m1 < bs.length then Int32.ofNat m1 else (-1 : Int32)))] _
   rw [hr118]
   refine XS.istoreN X101.here hx rfl (hb hby d12_12) rfl (l' := #[vR a1, vI (-1 : Int32), .unset]) rfl ?_
   refine XS.iloadN X101.here hx rfl (hb hby d12_13) rfl ?_
   refine XS.ifNo X101.here hx rfl (hb hby d12_14) rfl ((if0 _ _).trans (tlt (by decide : (-1 : Int32) < (0 : Int32))).2.1) ?_
   refine XS.aloadN X101.here hx rfl (hb hby d12_17) rfl rfl ?_
   refine XS.goto X101.here hx rfl (pc0 := 18) (pc' := 27) rfl (hb hby d12_18) (by decide) (by decide) ?_
   refine XS.astoreN X101.here hx rfl (hb hby d12_27) rfl rfl (l' := #[vR a1, vI (-1 : Int32), vR a1]) rfl ?_
   refine XS.aloadN X101.here hx rfl (hb hby d12_28) rfl rfl ?_
   show SS p e below T101 m 29 #[vR a1, vI (-1 : Int32), vR a1] [(.ref a1)] _
   refine st119.trans ?_
   show SS p e below T119 m 32 #[vR a1, vI (-1 : Int32), vR a1] [(.ref y119)] _
   refine st120 _ ?_
   show SS p e below T120 m 34 #[vR a1, vI (-1 : Int32), vR a1] [(.ref b120), (.ref y119)] _
   refine st121.trans ?_
   show SS p e below T121 m 37 #[vR a1, vI (-1 : Int32), vR a1] [(.int (eqR (stripL bs)))] _
   exact retN X121 hx (t := .boolean) Bd.returns (by simp) (hb hby d12_37) hr
  ·show Q_rmIsf Z a1 bs cs0 t1 k1 fm cin ta kA h0 n0 _ T121.heap _
   rw [H121]
   exact ⟨by rw [own_eqR01, isF, hpt, show m1 = bs.length by omega, List.take_length], N121, KC129⟩
  ·show CHr Z EL1 s.vm s.heap T121.vm T121.heap
   rw [hh, H121]
   exact cR2_K120.trans (CHv.at (s := s) (vm0 := T120.vm) X121 hZ120 hEW cR2_K120.1)
theorem d33_0 : DK cD34 0 (.iload_n 0) 1 := by decide +kernel
theorem d33_1 : DK cD34 1 (.bipush 9) 2 := by decide +kernel
theorem d33_3 : DK cD34 3 (.if_icmp .lt 9) 3 := by decide +kernel
theorem d33_6 : DK cD34 6 (.iload_n 0) 1 := by decide +kernel
theorem d33_7 : DK cD34 7 (.bipush 13) 2 := by decide +kernel
theorem d33_9 : DK cD34 9 (.if_icmp .le 15) 3 := by decide +kernel
theorem d33_12 : DK cD34 12 (.iload_n 0) 1 := by decide +kernel
theorem d33_13 : DK cD34 13 (.bipush 28) 2 := by decide +kernel
theorem d33_15 : DK cD34 15 (.if_icmp .lt 13) 3 := by decide +kernel
theorem d33_18 : DK cD34 18 (.iload_n 0) 1 := by decide +kernel
theorem d33_19 : DK cD34 19 (.bipush 32) 2 := by decide +kernel
theorem d33_21 : DK cD34 21 (.if_icmp .gt 7) 3 := by decide +kernel
theorem d33_24 : DK cD34 24 (.iconst 1) 1 := by decide +kernel
theorem d33_25 : DK cD34 25 (.goto 4) 3 := by decide +kernel
theorem d33_28 : DK cD34 28 (.iconst 0) 1 := by decide +kernel
theorem d33_29 : DK cD34 29 (.ireturn) 1 := by decide +kernel
theorem pn_0 : plainName "com/example/brisk_hub/briskhub/http/FormIsFormPinLaw" = true := by first | (simp [plainName, overriddenIn]; done) | decide +kernel
theorem ef_rmWs (m : MethodId) (y0 : Int32) : entryFrame m #[(.int y0)] 1 = (mkF m 0 #[vI y0] []) := by first | (simp [entryFrame, mkF, argsToLocals, Value.category]; done) | rfl
def Q_rmWs (Z : State) (p1 : Int32) (h0 : Heap) (n0 : Nat) (v : Option Value) (h : Heap) (L : List Loc) : Prop := v = some (.int (wsC p1)) ∧ Fr n0 L ∧ h = h0
theorem rmWs (l : Launch) (Z : State) (a0 : Array Value) (hw : HW a0 Z) (ws : List Jvm.Cond) (p1 : Int32) (h0 : Heap) (n0 : Nat) (O0 : Old Z n0 h0) :
  MF l mN34 method_2_code 1 (some .boolean) ws (Rm 0 0 0 0) Z #[(.int p1)] h0 (Q_rmWs Z p1 h0 n0) := by
 refine MetFree.of_bodySF (plainFor_of_name pn_0) hisR ?_
 intro p e s m args below meth c s₁ Bd hml0 hP hK
 obtain ⟨rfl, hZ, hh⟩ := hP
 have hx := Bd.exec
 have hby := Bd.bytes
 have hml : c.maxLocals = 1 := hml0
 have hown : s.vm.findClass "com/example/brisk_hub/briskhub/http/FormIsFormPinLaw" = some m.cls := findClass_of_methodNamed Bd.named
 have X0 : Stand p l e (Rm 0 0 0 0) s m #[(.int p1)] below meth c s₁ [] 0 0 := Stand.of_body Bd
 have e0 : s₁.heap = h0 := by rw [← hh, Bd.state]; rfl
 have N0 := Fr.nil n0
 have hn0 : n0 ≤ h0.size := O0.1 ▸ O0.2.1
 have pre0 : ∀ t, SS p e below s₁ m 0 #[vI p1] [] t → SE p e below s₁ m #[(.int p1)] 1 t := fun t k => castTop (ef_rmWs m p1) k
 have pre102 : ∀ t, SS p e below s₁ m 3 #[vI p1] [(.int 9), (.int p1)] t → SE p e below s₁ m #[(.int p1)] 1 t := by
  intro t kt
  refine pre0 _ ?_
  show SS p e below s₁ m 0 #[vI p1] [] _
  refine XS.iloadN X0.here hx rfl (hb hby d33_0) rfl ?_
  refine XS.bipush X0.here hx rfl (hb hby d33_1) ?_
  exact kt
 by_cases hc101 : p1 < (9 : Int32)
 ·skip
  have pre104 : ∀ t, SS p e below s₁ m 15 #[vI p1] [(.int 28), (.int p1)] t → SE p e below s₁ m #[(.int p1)] 1 t := by
   intro t kt
   refine pre102 _ ?_
   show SS p e below s₁ m 3 #[vI p1] [(.int 9), (.int p1)] _
   refine XS.icmpYes X0.here hx rfl (pc0 := 3) (pc' := 12) rfl (hb hby d33_3) rfl (tlt hc101).1 (by decide) (by decide) ?_
   refine XS.iloadN X0.here hx rfl (hb hby d33_12) rfl ?_
   refine XS.bipush X0.here hx rfl (hb hby d33_13) ?_
   exact kt
  by_cases hc103 : p1 < (28 : Int32)
  ·skip
   obtain ⟨fs, hr, hrun, hended, hW, hsame⟩ := X0.leave (v := some (.int 0)) (nvr Bd.returns)
   refine ⟨_, _, pre104 _ ?_, hrun, hended, _, _, rfl, ?_, ⟨_, rfl⟩, hW, hsame.mono (by decide) (by decide)⟩
   ·skip
    show SS p e below s₁ m 15 #[vI p1] [(.int 28), (.int p1)] _
    refine XS.icmpYes X0.here hx rfl (pc0 := 15) (pc' := 28) rfl (hb hby d33_15) rfl (tlt hc103).1 (by decide) (by decide) ?_
    refine XS.iconst X0.here hx rfl (hb hby d33_28) ?_
    show SS p e below s₁ m 29 #[vI p1] [(.int 0)] _
    exact retN X0 hx (t := .boolean) Bd.returns (by simp) (hb hby d33_29) hr
   ·show Q_rmWs Z p1 h0 n0 _ s₁.heap _
    rw [e0]
    exact ⟨by simp [wsC, hc101, hc103], N0, rfl⟩
  ·skip
   have pre106 : ∀ t, SS p e below s₁ m 21 #[vI p1] [(.int 32), (.int p1)] t → SE p e below s₁ m #[(.int p1)] 1 t := by
    intro t kt
    refine pre104 _ ?_
    show SS p e below s₁ m 15 #[vI p1] [(.int 28), (.int p1)] _
    refine XS.icmpNo X0.here hx rfl (hb hby d33_15) rfl (flt hc103).1 ?_
    refine XS.iloadN X0.here hx rfl (hb hby d33_18) rfl ?_
    refine XS.bipush X0.here hx rfl (hb hby d33_19) ?_
    exact kt
   by_cases hc105 : (32 : Int32) < p1
   ·skip
    obtain ⟨fs, hr, hrun, hended, hW, hsame⟩ := X0.leave (v := some (.int 0)) (nvr Bd.returns)
    refine ⟨_, _, pre106 _ ?_, hrun, hended, _, _, rfl, ?_, ⟨_, rfl⟩, hW, hsame.mono (by decide) (by decide)⟩
    ·skip
     show SS p e below s₁ m 21 #[vI p1] [(.int 32), (.int p1)] _
     refine XS.icmpYes X0.here hx rfl (pc0 := 21) (pc' := 28) rfl (hb hby d33_21) rfl (tlt hc105).2.2.1 (by decide) (by decide) ?_
     refine XS.iconst X0.here hx rfl (hb hby d33_28) ?_
     show SS p e below s₁ m 29 #[vI p1] [(.int 0)] _
     exact retN X0 hx (t := .boolean) Bd.returns (by simp) (hb hby d33_29) hr
    ·show Q_rmWs Z p1 h0 n0 _ s₁.heap _
     rw [e0]
     exact ⟨by simp [wsC, hc101, hc103, hc105], N0, rfl⟩
   ·skip
    obtain ⟨fs, hr, hrun, hended, hW, hsame⟩ := X0.leave (v := some (.int 1)) (nvr Bd.returns)
    refine ⟨_, _, pre106 _ ?_, hrun, hended, _, _, rfl, ?_, ⟨_, rfl⟩, hW, hsame.mono (by decide) (by decide)⟩
    ·skip
     show SS p e below s₁ m 21 #[vI p1] [(.int 32), (.int p1)] _
     refine XS.icmpNo X0.here hx rfl (hb hby d33_21) rfl (flt hc105).2.2.1 ?_
     refine XS.iconst X0.here hx rfl (hb hby d33_24) ?_
     refine XS.goto X0.here hx rfl (pc0 := 25) (pc' := 29) rfl (hb hby d33_25) (by decide) (by decide) ?_
     show SS p e below s₁ m 29 #[vI p1] [(.int 1)] _
     exact retN X0 hx (t := .boolean) Bd.returns (by simp) (hb hby d33_29) hr
    ·show Q_rmWs Z p1 h0 n0 _ s₁.heap _
     rw [e0]
     exact ⟨by simp [wsC, hc101, hc103, hc105], N0, rfl⟩
 ·skip
  have pre108 : ∀ t, SS p e below s₁ m 9 #[vI p1] [(.int 13), (.int p1)] t → SE p e below s₁ m #[(.int p1)] 1 t := by
   intro t kt
   refine pre102 _ ?_
   show SS p e below s₁ m 3 #[vI p1] [(.int 9), (.int p1)] _
   refine XS.icmpNo X0.here hx rfl (hb hby d33_3) rfl (flt hc101).1 ?_
   refine XS.iloadN X0.here hx rfl (hb hby d33_6) rfl ?_
   refine XS.bipush X0.here hx rfl (hb hby d33_7) ?_
   exact kt
  by_cases hc107 : (13 : Int32) < p1
  ·skip
   have pre110 : ∀ t, SS p e below s₁ m 15 #[vI p1] [(.int 28), (.int p1)] t → SE p e below s₁ m #[(.int p1)] 1 t := by
    intro t kt
    refine pre108 _ ?_
    show SS p e below s₁ m 9 #[vI p1] [(.int 13), (.int p1)] _
    refine XS.icmpNo X0.here hx rfl (hb hby d33_9) rfl (tlt hc107).2.2.2 ?_
    refine XS.iloadN X0.here hx rfl (hb hby d33_12) rfl ?_
    refine XS.bipush X0.here hx rfl (hb hby d33_13) ?_
    exact kt
   by_cases hc109 : p1 < (28 : Int32)
   ·skip
    obtain ⟨fs, hr, hrun, hended, hW, hsame⟩ := X0.leave (v := some (.int 0)) (nvr Bd.returns)
    refine ⟨_, _, pre110 _ ?_, hrun, hended, _, _, rfl, ?_, ⟨_, rfl⟩, hW, hsame.mono (by decide) (by decide)⟩
    ·skip
     show SS p e below s₁ m 15 #[vI p1] [(.int 28), (.int p1)] _
     refine XS.icmpYes X0.here hx rfl (pc0 := 15) (pc' := 28) rfl (hb hby d33_15) rfl (tlt hc109).1 (by decide) (by decide) ?_
     refine XS.iconst X0.here hx rfl (hb hby d33_28) ?_
     show SS p e below s₁ m 29 #[vI p1] [(.int 0)] _
     exact retN X0 hx (t := .boolean) Bd.returns (by simp) (hb hby d33_29) hr
    ·show Q_rmWs Z p1 h0 n0 _ s₁.heap _
     rw [e0]
     exact ⟨by simp [wsC, hc101, hc107, hc109], N0, rfl⟩
   ·skip
    have pre112 : ∀ t, SS p e below s₁ m 21 #[vI p1] [(.int 32), (.int p1)] t → SE p e below s₁ m #[(.int p1)] 1 t := by
     intro t kt
     refine pre110 _ ?_
     show SS p e below s₁ m 15 #[vI p1] [(.int 28), (.int p1)] _
     refine XS.icmpNo X0.here hx rfl (hb hby d33_15) rfl (flt hc109).1 ?_
     refine XS.iloadN X0.here hx rfl (hb hby d33_18) rfl ?_
     refine XS.bipush X0.here hx rfl (hb hby d33_19) ?_
     exact kt
    by_cases hc111 : (32 : Int32) < p1
    ·skip
     obtain ⟨fs, hr, hrun, hended, hW, hsame⟩ := X0.leave (v := some (.int 0)) (nvr Bd.returns)
     refine ⟨_, _, pre112 _ ?_, hrun, hended, _, _, rfl, ?_, ⟨_, rfl⟩, hW, hsame.mono (by decide) (by decide)⟩
     ·skip
      show SS p e below s₁ m 21 #[vI p1] [(.int 32), (.int p1)] _
      refine XS.icmpYes X0.here hx rfl (pc0 := 21) (pc' := 28) rfl (hb hby d33_21) rfl (tlt hc111).2.2.1 (by decide) (by decide) ?_
      refine XS.iconst X0.here hx rfl (hb hby d33_28) ?_
      show SS p e below s₁ m 29 #[vI p1] [(.int 0)] _
      exact retN X0 hx (t := .boolean) Bd.returns (by simp) (hb hby d33_29) hr
     ·show Q_rmWs Z p1 h0 n0 _ s₁.heap _
      rw [e0]
      exact ⟨by simp [wsC, hc101, hc107, hc109, hc111], N0, rfl⟩
    ·skip
     obtain ⟨fs, hr, hrun, hended, hW, hsame⟩ := X0.leave (v := some (.int 1)) (nvr Bd.returns)
     refine ⟨_, _, pre112 _ ?_, hrun, hended, _, _, rfl, ?_, ⟨_, rfl⟩, hW, hsame.mono (by decide) (by decide)⟩
     ·skip
      show SS p e below s₁ m 21 #[vI p1] [(.int 32), (.int p1)] _
      refine XS.icmpNo X0.here hx rfl (hb hby d33_21) rfl (flt hc111).2.2.1 ?_
      refine XS.iconst X0.here hx rfl (hb hby d33_24) ?_
      refine XS.goto X0.here hx rfl (pc0 := 25) (pc' := 29) rfl (hb hby d33_25) (by decide) (by decide) ?_
      show SS p e below s₁ m 29 #[vI p1] [(.int 1)] _
      exact retN X0 hx (t := .boolean) Bd.returns (by simp) (hb hby d33_29) hr
     ·show Q_rmWs Z p1 h0 n0 _ s₁.heap _
      rw [e0]
      exact ⟨by simp [wsC, hc101, hc107, hc109, hc111], N0, rfl⟩
  ·skip
   obtain ⟨fs, hr, hrun, hended, hW, hsame⟩ := X0.leave (v := some (.int 1)) (nvr Bd.returns)
   refine ⟨_, _, pre108 _ ?_, hrun, hended, _, _, rfl, ?_, ⟨_, rfl⟩, hW, hsame.mono (by decide) (by decide)⟩
   ·skip
    show SS p e below s₁ m 9 #[vI p1] [(.int 13), (.int p1)] _
    refine XS.icmpYes X0.here hx rfl (pc0 := 9) (pc' := 24) rfl (hb hby d33_9) rfl (flt hc107).2.2.2 (by decide) (by decide) ?_
    refine XS.iconst X0.here hx rfl (hb hby d33_24) ?_
    refine XS.goto X0.here hx rfl (pc0 := 25) (pc' := 29) rfl (hb hby d33_25) (by decide) (by decide) ?_
    show SS p e below s₁ m 29 #[vI p1] [(.int 1)] _
    exact retN X0 hx (t := .boolean) Bd.returns (by simp) (hb hby d33_29) hr
   ·show Q_rmWs Z p1 h0 n0 _ s₁.heap _
    rw [e0]
    exact ⟨by simp [wsC, hc101, hc107], N0, rfl⟩
theorem d34_0 : DK cD35 0 (.iload_n 0) 1 := by decide +kernel
theorem d34_1 : DK cD35 1 (.bipush 97) 2 := by decide +kernel
theorem d34_3 : DK cD35 3 (.if_icmp .lt 17) 3 := by decide +kernel
theorem d34_6 : DK cD35 6 (.iload_n 0) 1 := by decide +kernel
theorem d34_7 : DK cD35 7 (.bipush 122) 2 := by decide +kernel
theorem d34_9 : DK cD35 9 (.if_icmp .gt 11) 3 := by decide +kernel
theorem d34_12 : DK cD35 12 (.iload_n 0) 1 := by decide +kernel
theorem d34_13 : DK cD35 13 (.bipush 32) 2 := by decide +kernel
theorem d34_15 : DK cD35 15 (.isub) 1 := by decide +kernel
theorem d34_16 : DK cD35 16 (.i2c) 1 := by decide +kernel
theorem d34_17 : DK cD35 17 (.goto 4) 3 := by decide +kernel
theorem d34_20 : DK cD35 20 (.iload_n 0) 1 := by decide +kernel
theorem d34_21 : DK cD35 21 (.ireturn) 1 := by decide +kernel
theorem ef_rmUp (m : MethodId) (y0 : Int32) : entryFrame m #[(.int y0)] 1 = (mkF m 0 #[vI y0] []) := by first | (simp [entryFrame, mkF, argsToLocals, Value.category]; done) | rfl
def Q_rmUp (Z : State) (p1 : Int32) (h0 : Heap) (n0 : Nat) (v : Option Value) (h : Heap) (L : List Loc) : Prop := v = some (.int (upF p1)) ∧ Fr n0 L ∧ h = h0
theorem rmUp (l : Launch) (Z : State) (a0 : Array Value) (hw : HW a0 Z) (ws : List Jvm.Cond) (p1 : Int32) (h0 : Heap) (n0 : Nat) (O0 : Old Z n0 h0) (r1 : ¬ p1 < 0 ∧ ¬ (255 : Int32) < p1) :
  MF l mN35 method_3_code 1 (some .char) ws (Rm 0 0 0 0) Z #[(.int p1)] h0 (Q_rmUp Z p1 h0 n0) := by
 refine MetFree.of_bodySF (plainFor_of_name pn_0) hisR ?_
 intro p e s m args below meth c s₁ Bd hml0 hP hK
 obtain ⟨rfl, hZ, hh⟩ := hP
 have hx := Bd.exec
 have hby := Bd.bytes
 have hml : c.maxLocals = 1 := hml0
 have hown : s.vm.findClass "com/example/brisk_hub/briskhub/http/FormIsFormPinLaw" = some m.cls := findClass_of_methodNamed Bd.named
 have X0 : Stand p l e (Rm 0 0 0 0) s m #[(.int p1)] below meth c s₁ [] 0 0 := Stand.of_body Bd
 have e0 : s₁.heap = h0 := by rw [← hh, Bd.state]; rfl
 have N0 := Fr.nil n0
 have hn0 : n0 ≤ h0.size := O0.1 ▸ O0.2.1
 have pre0 : ∀ t, SS p e below s₁ m 0 #[vI p1] [] t → SE p e below s₁ m #[(.int p1)] 1 t := fun t k => castTop (ef_rmUp m p1) k
 have pre102 : ∀ t, SS p e below s₁ m 3 #[vI p1] [(.int 97), (.int p1)] t → SE p e below s₁ m #[(.int p1)] 1 t := by
  intro t kt
  refine pre0 _ ?_
  show SS p e below s₁ m 0 #[vI p1] [] _
  refine XS.iloadN X0.here hx rfl (hb hby d34_0) rfl ?_
  refine XS.bipush X0.here hx rfl (hb hby d34_1) ?_
  exact kt
 by_cases hc101 : p1 < (97 : Int32)
 ·skip
  obtain ⟨fs, hr, hrun, hended, hW, hsame⟩ := X0.leave (v := some (.int (nar .char p1))) (nvr Bd.returns)
  refine ⟨_, _, pre102 _ ?_, hrun, hended, _, _, rfl, ?_, ⟨_, rfl⟩, hW, hsame.mono (by decide) (by decide)⟩
  ·skip
   show SS p e below s₁ m 3 #[vI p1] [(.int 97), (.int p1)] _
   refine XS.icmpYes X0.here hx rfl (pc0 := 3) (pc' := 20) rfl (hb hby d34_3) rfl (tlt hc101).1 (by decide) (by decide) ?_
   refine XS.iloadN X0.here hx rfl (hb hby d34_20) rfl ?_
   show SS p e below s₁ m 21 #[vI p1] [(.int p1)] _
   exact retN X0 hx (t := .char) Bd.returns (by simp) (hb hby d34_21) hr
  ·show Q_rmUp Z p1 h0 n0 _ s₁.heap _
   rw [e0]
   exact ⟨by rw [upF, if_pos hc101]; exact congrArg (fun z => some (Value.int z)) (own_nc (own_c255 r1)), N0, rfl⟩
 ·skip
  have pre104 : ∀ t, SS p e below s₁ m 9 #[vI p1] [(.int 122), (.int p1)] t → SE p e below s₁ m #[(.int p1)] 1 t := by
   intro t kt
   refine pre102 _ ?_
   show SS p e below s₁ m 3 #[vI p1] [(.int 97), (.int p1)] _
   refine XS.icmpNo X0.here hx rfl (hb hby d34_3) rfl (flt hc101).1 ?_
   refine XS.iloadN X0.here hx rfl (hb hby d34_6) rfl ?_
   refine XS.bipush X0.here hx rfl (hb hby d34_7) ?_
   exact kt
  by_cases hc103 : (122 : Int32) < p1
  ·skip
   obtain ⟨fs, hr, hrun, hended, hW, hsame⟩ := X0.leave (v := some (.int (nar .char p1))) (nvr Bd.returns)
   refine ⟨_, _, pre104 _ ?_, hrun, hended, _, _, rfl, ?_, ⟨_, rfl⟩, hW, hsame.mono (by decide) (by decide)⟩
   ·skip
    show SS p e below s₁ m 9 #[vI p1] [(.int 122), (.int p1)] _
    refine XS.icmpYes X0.here hx rfl (pc0 := 9) (pc' := 20) rfl (hb hby d34_9) rfl (tlt hc103).2.2.1 (by decide) (by decide) ?_
    refine XS.iloadN X0.here hx rfl (hb hby d34_20) rfl ?_
    show SS p e below s₁ m 21 #[vI p1] [(.int p1)] _
    exact retN X0 hx (t := .char) Bd.returns (by simp) (hb hby d34_21) hr
   ·show Q_rmUp Z p1 h0 n0 _ s₁.heap _
    rw [e0]
    exact ⟨by rw [upF, if_neg hc101, if_pos hc103]; exact congrArg (fun z => some (Value.int z)) (own_nc (own_c255 r1)), N0, rfl⟩
  ·skip
   obtain ⟨fs, hr, hrun, hended, hW, hsame⟩ := X0.leave (v := some (.int (nar .char ((p1 - (32 : Int32)).toUInt32.toUInt16.toUInt32.toInt32)))) (nvr Bd.returns)
   refine ⟨_, _, pre104 _ ?_, hrun, hended, _, _, rfl, ?_, ⟨_, rfl⟩, hW, hsame.mono (by decide) (by decide)⟩
   ·skip
    show SS p e below s₁ m 9 #[vI p1] [(.int 122), (.int p1)] _
    refine XS.icmpNo X0.here hx rfl (hb hby d34_9) rfl (flt hc103).2.2.1 ?_
    refine XS.iloadN X0.here hx rfl (hb hby d34_12) rfl ?_
    refine XS.bipush X0.here hx rfl (hb hby d34_13) ?_
    refine XS.isub X0.here hx rfl (hb hby d34_15) rfl ?_
    refine XS.i2c X0.here hx rfl (hb hby d34_16) rfl ?_
    refine XS.goto X0.here hx rfl (pc0 := 17) (pc' := 21) rfl (hb hby d34_17) (by decide) (by decide) ?_
    show SS p e below s₁ m 21 #[vI p1] [(.int ((p1 - (32 : Int32)).toUInt32.toUInt16.toUInt32.toInt32))] _
    exact retN X0 hx (t := .char) Bd.returns (by simp) (hb hby d34_21) hr
   ·show Q_rmUp Z p1 h0 n0 _ s₁.heap _
    rw [e0]
    exact ⟨by rw [upF, if_neg hc101, if_neg hc103]; exact congrArg (fun z => some (Value.int z)) ((own_c16 _).trans ((own_upr r1).2 hc101)), N0, rfl⟩
theorem pd_25 : parseMethodDescriptor "(C)C" = some ⟨[.char], some .char⟩ := by decide +kernel
theorem tnC {p : Program} {l : Launch} {e : Env} {s : State} {m : MethodId} {args : Array Value} {below : List Frame} {meth : Method} {c : Code} {T0 : State} {locs : List Loc} {Z : State} {a0 : Array Value} {h0 : Heap} {n0 : Nat} (p1 p2 p3 p4 m6 : Int32) (a4 : Addr) (i : Nat)
  (X0 : Stand p l e room_1 s m args below meth c T0 locs 3 200) (hx : p.tables.exec = Jvm.exec) (hZ : Z.Warmed39 s.vm) (hw : HW a0 Z) (hby : c.code = code) (hml : c.maxLocals = 18) (hown : s.vm.findClass "com/example/brisk_hub/briskhub/http/FormIsFormPinLaw" = some m.cls) (e0 : T0.heap = h0) (O0 : Old Z n0 h0) (N0 : Fr n0 locs) (rm6 : ¬ m6 < 0 ∧ ¬ (255 : Int32) < m6) :
  ∃ (T' : State) (h' : Heap) (L' : List Loc), Stand p l e room_1 s m args below meth c T' L' 3 200 ∧ T'.heap = h' ∧ Fr n0 L' ∧ h' = h0 ∧ ∀ target, SS p e below T' m 65 #[vI p1, vI p2, vI p3, vI p4, vR a4, vI (Int32.ofNat i), vI m6, vI (((p1.toUInt32 >>> ((2 : Int32) &&& 31).toUInt32).toInt32) &&& (3 : Int32)), vI (cF p1 p3 m6), .unset, .unset, .unset, .unset, .unset, .unset, .unset, .unset, .unset] [] target → SS p e below T0 m 22 #[vI p1, vI p2, vI p3, vI p4, vR a4, vI (Int32.ofNat i), vI m6, .unset, .unset, .unset, .unset, .unset, .unset, .unset, .unset, .unset, .unset, .unset] [] target := by
 have hn0 : n0 ≤ h0.size := O0.1 ▸ O0.2.1
 have pre0 : ∀ t, SS p e below T0 m 22 #[vI p1, vI p2, vI p3, vI p4, vR a4, vI (Int32.ofNat i), vI m6, .unset, .unset, .unset, .unset, .unset, .unset, .unset, .unset, .unset, .unset, .unset] [] t → SS p e below T0 m 22 #[vI p1, vI p2, vI p3, vI p4, vR a4, vI (Int32.ofNat i), vI m6, .unset, .unset, .unset, .unset, .unset, .unset, .unset, .unset, .unset, .unset, .unset] [] t := fun t k => k
 have pre102 : ∀ t, SS p e below T0 m 31 #[vI p1, vI p2, vI p3, vI p4, vR a4, vI (Int32.ofNat i), vI m6, vI (((p1.toUInt32 >>> ((2 : Int32) &&& 31).toUInt32).toInt32) &&& (3 : Int32)), .unset, .unset, .unset, .unset, .unset, .unset, .unset, .unset, .unset, .unset] [(.int (((p1.toUInt32 >>> ((2 : Int32) &&& 31).toUInt32).toInt32) &&& (3 : Int32)))] t → SS p e below T0 m 22 #[vI p1, vI p2, vI p3, vI p4, vR a4, vI (Int32.ofNat i), vI m6, .unset, .unset, .unset, .unset, .unset, .unset, .unset, .unset, .unset, .unset, .unset] [] t := by
  intro t kt
  refine pre0 _ ?_
  show SS p e below T0 m 22 #[vI p1, vI p2, vI p3, vI p4, vR a4, vI (Int32.ofNat i), vI m6, .unset, .unset, .unset, .unset, .unset, .unset, .unset, .unset, .unset, .unset, .unset] [] _
  refine XS.iloadN X0.here hx rfl (hb hby at_22) rfl ?_
  refine XS.iconst X0.here hx rfl (hb hby at_23) ?_
  show SS p e below T0 m 24 #[vI p1, vI p2, vI p3, vI p4, vR a4, vI (Int32.ofNat i), vI m6, .unset, .unset, .unset, .unset, .unset, .unset, .unset, .unset, .unset, .unset, .unset] [(.int 2), (.int p1)] _
  refine XS.iushr X0.here hx rfl (hb hby at_24) rfl ?_
  refine XS.iconst X0.here hx rfl (hb hby at_25) ?_
  refine XS.iand X0.here hx rfl (hb hby at_26) rfl ?_
  refine XS.istore X0.here hx rfl (hb hby at_27) rfl (l' := #[vI p1, vI p2, vI p3, vI p4, vR a4, vI (Int32.ofNat i), vI m6, vI (((p1.toUInt32 >>> ((2 : Int32) &&& 31).toUInt32).toInt32) &&& (3 : Int32)), .unset, .unset, .unset, .unset, .unset, .unset, .unset, .unset, .unset, .unset]) rfl ?_
  refine XS.iload X0.here hx rfl (hb hby at_29) rfl ?_
  exact kt
 by_cases hc101 : (((p1.toUInt32 >>> ((2 : Int32) &&& 31).toUInt32).toInt32) &&& (3 : Int32)) = (0 : Int32)
 ·skip
  refine ⟨T0, h0, _, X0, e0, N0, rfl, fun target kt => pre102 _ ?_⟩
  show SS p e below T0 m 31 #[vI p1, vI p2, vI p3, vI p4, vR a4, vI (Int32.ofNat i), vI m6, vI (((p1.toUInt32 >>> ((2 : Int32) &&& 31).toUInt32).toInt32) &&& (3 : Int32)), .unset, .unset, .unset, .unset, .unset, .unset, .unset, .unset, .unset, .unset] [(.int (((p1.toUInt32 >>> ((2 : Int32) &&& 31).toUInt32).toInt32) &&& (3 : Int32)))] _
  refine XS.ifNo X0.here hx rfl (hb hby at_31) rfl ((if0 _ _).trans (teq hc101).2) ?_
  refine XS.iload X0.here hx rfl (hb hby at_34) rfl ?_
  refine XS.istore X0.here hx rfl (hb hby at_36) rfl (l' := #[vI p1, vI p2, vI p3, vI p4, vR a4, vI (Int32.ofNat i), vI m6, vI (((p1.toUInt32 >>> ((2 : Int32) &&& 31).toUInt32).toInt32) &&& (3 : Int32)), vI m6, .unset, .unset, .unset, .unset, .unset, .unset, .unset, .unset, .unset]) rfl ?_
  refine XS.goto X0.here hx rfl (pc0 := 38) (pc' := 65) rfl (hb hby at_38) (by decide) (by decide) ?_
  show SS p e below T0 m 65 #[vI p1, vI p2, vI p3, vI p4, vR a4, vI (Int32.ofNat i), vI m6, vI (((p1.toUInt32 >>> ((2 : Int32) &&& 31).toUInt32).toInt32) &&& (3 : Int32)), vI m6, .unset, .unset, .unset, .unset, .unset, .unset, .unset, .unset, .unset] [] _
  rw [show cF p1 p3 m6 = m6 by rw [cF, if_pos hc101]] at kt
  exact kt
 ·skip
  have pre104 : ∀ t, SS p e below T0 m 44 #[vI p1, vI p2, vI p3, vI p4, vR a4, vI (Int32.ofNat i), vI m6, vI (((p1.toUInt32 >>> ((2 : Int32) &&& 31).toUInt32).toInt32) &&& (3 : Int32)), .unset, .unset, .unset, .unset, .unset, .unset, .unset, .unset, .unset, .unset] [(.int 1), (.int (((p1.toUInt32 >>> ((2 : Int32) &&& 31).toUInt32).toInt32) &&& (3 : Int32)))] t → SS p e below T0 m 22 #[vI p1, vI p2, vI p3, vI p4, vR a4, vI (Int32.ofNat i), vI m6, .unset, .unset, .unset, .unset, .unset, .unset, .unset, .unset, .unset, .unset, .unset] [] t := by
   intro t kt
   refine pre102 _ ?_
   show SS p e below T0 m 31 #[vI p1, vI p2, vI p3, vI p4, vR a4, vI (Int32.ofNat i), vI m6, vI (((p1.toUInt32 >>> ((2 : Int32) &&& 31).toUInt32).toInt32) &&& (3 : Int32)), .unset, .unset, .unset, .unset, .unset, .unset, .unset, .unset, .unset, .unset] [(.int (((p1.toUInt32 >>> ((2 : Int32) &&& 31).toUInt32).toInt32) &&& (3 : Int32)))] _
   refine XS.ifYes X0.here hx rfl (pc0 := 31) (pc' := 41) rfl (hb hby at_31) rfl ((if0 _ _).trans (feq hc101).2) (by decide) (by decide) ?_
   refine XS.iload X0.here hx rfl (hb hby at_41) rfl ?_
   refine XS.iconst X0.here hx rfl (hb hby at_43) ?_
   exact kt
  by_cases hc103 : (((p1.toUInt32 >>> ((2 : Int32) &&& 31).toUInt32).toInt32) &&& (3 : Int32)) = (1 : Int32)
  ·skip
   obtain ⟨_, _, ⟨T105, L105, k105, n105⟩, -, X105, ⟨Lc105, hQ105, l105, y105, z105⟩, st105⟩ := Jvm.LawKit.callS X0 hx (y := mN35) hown (mvT hZ (tw hw 147 rfl)) (mvT hZ (tw hw 148 rfl)) (mvT hZ (tw hw 145 rfl)) (mvT hZ (tw hw 149 rfl)) (by decide) (backOf (W := 0) (rmUp l Z a0 hw [] m6  h0 n0 O0 rm6) hZ (tw hw 149 rfl) (tw hw 145 rfl) (by decide) (by decide)) (g := (mkF m 49 #[vI p1, vI p2, vI p3, vI p4, vR a4, vI (Int32.ofNat i), vI m6, vI (((p1.toUInt32 >>> ((2 : Int32) &&& 31).toUInt32).toInt32) &&& (3 : Int32)), .unset, .unset, .unset, .unset, .unset, .unset, .unset, .unset, .unset, .unset] [(.int m6)])) rfl (by rw [hml]; rfl) (argsL := [(.int m6)]) (rest := []) (lenOf pd_25 rfl) rfl (wL _) (hb hby at_49) (fun _ _ => ⟨rfl, e0, (by decide : 3 + 0 ≤ _), (by decide : 200 + 0 ≤ _)⟩)
   dsimp only [Pt.U, Pt.locs, Pt.cells, Pt.slots] at X105 l105 y105 z105 st105 hQ105
   rw [l105] at X105
   subst y105 z105
   obtain ⟨rfl, N105q, H105⟩ := hQ105
   have N105 := Fr.app N0 N105q
   refine ⟨T105, h0, _, X105, H105, N105, rfl, fun target kt => pre104 _ ?_⟩
   show SS p e below T0 m 44 #[vI p1, vI p2, vI p3, vI p4, vR a4, vI (Int32.ofNat i), vI m6, vI (((p1.toUInt32 >>> ((2 : Int32) &&& 31).toUInt32).toInt32) &&& (3 : Int32)), .unset, .unset, .unset, .unset, .unset, .unset, .unset, .unset, .unset, .unset] [(.int 1), (.int (((p1.toUInt32 >>> ((2 : Int32) &&& 31).toUInt32).toInt32) &&& (3 : Int32)))] _
   refine XS.icmpNo X0.here hx rfl (hb hby at_44) rfl (teq hc103).2 ?_
   refine XS.iload X0.here hx rfl (hb hby at_47) rfl ?_
   show SS p e below T0 m 49 #[vI p1, vI p2, vI p3, vI p4, vR a4, vI (Int32.ofNat i), vI m6, vI (((p1.toUInt32 >>> ((2 : Int32) &&& 31).toUInt32).toInt32) &&& (3 : Int32)), .unset, .unset, .unset, .unset, .unset, .unset, .unset, .unset, .unset, .unset] [(.int m6)] _
   refine st105 _ ?_
   refine XS.istore X105.here hx rfl (hb hby at_52) rfl (l' := #[vI p1, vI p2, vI p3, vI p4, vR a4, vI (Int32.ofNat i), vI m6, vI (((p1.toUInt32 >>> ((2 : Int32) &&& 31).toUInt32).toInt32) &&& (3 : Int32)), vI (upF m6), .unset, .unset, .unset, .unset, .unset, .unset, .unset, .unset, .unset]) rfl ?_
   refine XS.goto X105.here hx rfl (pc0 := 54) (pc' := 65) rfl (hb hby at_54) (by decide) (by decide) ?_
   show SS p e below T105 m 65 #[vI p1, vI p2, vI p3, vI p4, vR a4, vI (Int32.ofNat i), vI m6, vI (((p1.toUInt32 >>> ((2 : Int32) &&& 31).toUInt32).toInt32) &&& (3 : Int32)), vI (upF m6), .unset, .unset, .unset, .unset, .unset, .unset, .unset, .unset, .unset] [] _
   rw [show cF p1 p3 m6 = upF m6 by rw [cF, if_neg hc101, if_pos hc103]] at kt
   exact kt
  ·skip
   refine ⟨T0, h0, _, X0, e0, N0, rfl, fun target kt => pre104 _ ?_⟩
   show SS p e below T0 m 44 #[vI p1, vI p2, vI p3, vI p4, vR a4, vI (Int32.ofNat i), vI m6, vI (((p1.toUInt32 >>> ((2 : Int32) &&& 31).toUInt32).toInt32) &&& (3 : Int32)), .unset, .unset, .unset, .unset, .unset, .unset, .unset, .unset, .unset, .unset] [(.int 1), (.int (((p1.toUInt32 >>> ((2 : Int32) &&& 31).toUInt32).toInt32) &&& (3 : Int32)))] _
   refine XS.icmpYes X0.here hx rfl (pc0 := 44) (pc' := 57) rfl (hb hby at_44) rfl (feq hc103).2 (by decide) (by decide) ?_
   refine XS.iloadN X0.here hx rfl (hb hby at_57) rfl ?_
   refine XS.sipush X0.here hx rfl (hb hby at_58) ?_
   refine XS.iand X0.here hx rfl (hb hby at_61) rfl ?_
   refine XS.i2c X0.here hx rfl (hb hby at_62) rfl ?_
   refine XS.istore X0.here hx rfl (hb hby at_63) rfl (l' := #[vI p1, vI p2, vI p3, vI p4, vR a4, vI (Int32.ofNat i), vI m6, vI (((p1.toUInt32 >>> ((2 : Int32) &&& 31).toUInt32).toInt32) &&& (3 : Int32)), vI ((p3 &&& (255 : Int32)).toUInt32.toUInt16.toUInt32.toInt32), .unset, .unset, .unset, .unset, .unset, .unset, .unset, .unset, .unset]) rfl ?_
   show SS p e below T0 m 65 #[vI p1, vI p2, vI p3, vI p4, vR a4, vI (Int32.ofNat i), vI m6, vI (((p1.toUInt32 >>> ((2 : Int32) &&& 31).toUInt32).toInt32) &&& (3 : Int32)), vI ((p3 &&& (255 : Int32)).toUInt32.toUInt16.toUInt32.toInt32), .unset, .unset, .unset, .unset, .unset, .unset, .unset, .unset, .unset] [] _
   rw [i2c_mask p3]
   rw [show cF p1 p3 m6 = (p3 &&& (255 : Int32)) by rw [cF, if_neg hc101, if_neg hc103]] at kt
   exact kt
theorem tnS {p : Program} {l : Launch} {e : Env} {s : State} {m : MethodId} {args : Array Value} {below : List Frame} {meth : Method} {c : Code} {T0 : State} {locs : List Loc} {Z : State} {a0 : Array Value} {h0 : Heap} {n0 : Nat} (p1 p2 p3 p4 m6 c8 a9 a10 a11 a12 : Int32) (a4 : Addr) (i : Nat)
  (X0 : Stand p l e room_1 s m args below meth c T0 locs 3 200) (hx : p.tables.exec = Jvm.exec) (hZ : Z.Warmed39 s.vm) (hw : HW a0 Z) (hby : c.code = code) (hml : c.maxLocals = 18) (hown : s.vm.findClass "com/example/brisk_hub/briskhub/http/FormIsFormPinLaw" = some m.cls) (e0 : T0.heap = h0) (O0 : Old Z n0 h0) (N0 : Fr n0 locs) :
  ∃ (T' : State) (h' : Heap) (L' : List Loc), Stand p l e room_1 s m args below meth c T' L' 3 200 ∧ T'.heap = h' ∧ Fr n0 L' ∧ h' = h0 ∧ ∀ target, SS p e below T' m 169 #[vI p1, vI p2, vI p3, vI p4, vR a4, vI (Int32.ofNat i), vI m6, vI (((p1.toUInt32 >>> ((2 : Int32) &&& 31).toUInt32).toInt32) &&& (3 : Int32)), vI c8, vI a9, vI a10, vI a11, vI a12, vI (p1 &&& (3 : Int32)), vI (smF c8 m6), .unset, .unset, .unset] [] target → SS p e below T0 m 130 #[vI p1, vI p2, vI p3, vI p4, vR a4, vI (Int32.ofNat i), vI m6, vI (((p1.toUInt32 >>> ((2 : Int32) &&& 31).toUInt32).toInt32) &&& (3 : Int32)), vI c8, vI a9, vI a10, vI a11, vI a12, vI (p1 &&& (3 : Int32)), .unset, .unset, .unset, .unset] [] target := by
 have hn0 : n0 ≤ h0.size := O0.1 ▸ O0.2.1
 have pre0 : ∀ t, SS p e below T0 m 130 #[vI p1, vI p2, vI p3, vI p4, vR a4, vI (Int32.ofNat i), vI m6, vI (((p1.toUInt32 >>> ((2 : Int32) &&& 31).toUInt32).toInt32) &&& (3 : Int32)), vI c8, vI a9, vI a10, vI a11, vI a12, vI (p1 &&& (3 : Int32)), .unset, .unset, .unset, .unset] [] t → SS p e below T0 m 130 #[vI p1, vI p2, vI p3, vI p4, vR a4, vI (Int32.ofNat i), vI m6, vI (((p1.toUInt32 >>> ((2 : Int32) &&& 31).toUInt32).toInt32) &&& (3 : Int32)), vI c8, vI a9, vI a10, vI a11, vI a12, vI (p1 &&& (3 : Int32)), .unset, .unset, .unset, .unset] [] t := fun t k => k
 have pre102 : ∀ t, SS p e below T0 m 134 #[vI p1, vI p2, vI p3, vI p4, vR a4, vI (Int32.ofNat i), vI m6, vI (((p1.toUInt32 >>> ((2 : Int32) &&& 31).toUInt32).toInt32) &&& (3 : Int32)), vI c8, vI a9, vI a10, vI a11, vI a12, vI (p1 &&& (3 : Int32)), .unset, .unset, .unset, .unset] [(.int m6), (.int c8)] t → SS p e below T0 m 130 #[vI p1, vI p2, vI p3, vI p4, vR a4, vI (Int32.ofNat i), vI m6, vI (((p1.toUInt32 >>> ((2 : Int32) &&& 31).toUInt32).toInt32) &&& (3 : Int32)), vI c8, vI a9, vI a10, vI a11, vI a12, vI (p1 &&& (3 : Int32)), .unset, .unset, .unset, .unset] [] t := by
  intro t kt
  refine pre0 _ ?_
  show SS p e below T0 m 130 #[vI p1, vI p2, vI p3, vI p4, vR a4, vI (Int32.ofNat i), vI m6, vI (((p1.toUInt32 >>> ((2 : Int32) &&& 31).toUInt32).toInt32) &&& (3 : Int32)), vI c8, vI a9, vI a10, vI a11, vI a12, vI (p1 &&& (3 : Int32)), .unset, .unset, .unset, .unset] [] _
  refine XS.iload X0.here hx rfl (hb hby at_130) rfl ?_
  refine XS.iload X0.here hx rfl (hb hby at_132) rfl ?_
  exact kt
 by_cases hc101 : c8 = m6
 ·skip
  refine ⟨T0, h0, _, X0, e0, N0, rfl, fun target kt => pre102 _ ?_⟩
  show SS p e below T0 m 134 #[vI p1, vI p2, vI p3, vI p4, vR a4, vI (Int32.ofNat i), vI m6, vI (((p1.toUInt32 >>> ((2 : Int32) &&& 31).toUInt32).toInt32) &&& (3 : Int32)), vI c8, vI a9, vI a10, vI a11, vI a12, vI (p1 &&& (3 : Int32)), .unset, .unset, .unset, .unset] [(.int m6), (.int c8)] _
  refine XS.icmpYes X0.here hx rfl (pc0 := 134) (pc' := 162) rfl (hb hby at_134) rfl (teq hc101).1 (by decide) (by decide) ?_
  refine XS.iconst X0.here hx rfl (hb hby at_162) ?_
  refine XS.goto X0.here hx rfl (pc0 := 163) (pc' := 167) rfl (hb hby at_163) (by decide) (by decide) ?_
  refine XS.istore X0.here hx rfl (hb hby at_167) rfl (l' := #[vI p1, vI p2, vI p3, vI p4, vR a4, vI (Int32.ofNat i), vI m6, vI (((p1.toUInt32 >>> ((2 : Int32) &&& 31).toUInt32).toInt32) &&& (3 : Int32)), vI c8, vI a9, vI a10, vI a11, vI a12, vI (p1 &&& (3 : Int32)), vI 1, .unset, .unset, .unset]) rfl ?_
  show SS p e below T0 m 169 #[vI p1, vI p2, vI p3, vI p4, vR a4, vI (Int32.ofNat i), vI m6, vI (((p1.toUInt32 >>> ((2 : Int32) &&& 31).toUInt32).toInt32) &&& (3 : Int32)), vI c8, vI a9, vI a10, vI a11, vI a12, vI (p1 &&& (3 : Int32)), vI 1, .unset, .unset, .unset] [] _
  rw [show smF c8 m6 = 1 by rw [smF, if_pos hc101]] at kt
  exact kt
 ·skip
  have pre104 : ∀ t, SS p e below T0 m 141 #[vI p1, vI p2, vI p3, vI p4, vR a4, vI (Int32.ofNat i), vI m6, vI (((p1.toUInt32 >>> ((2 : Int32) &&& 31).toUInt32).toInt32) &&& (3 : Int32)), vI c8, vI a9, vI a10, vI a11, vI a12, vI (p1 &&& (3 : Int32)), .unset, .unset, .unset, .unset] [(.int 97), (.int m6)] t → SS p e below T0 m 130 #[vI p1, vI p2, vI p3, vI p4, vR a4, vI (Int32.ofNat i), vI m6, vI (((p1.toUInt32 >>> ((2 : Int32) &&& 31).toUInt32).toInt32) &&& (3 : Int32)), vI c8, vI a9, vI a10, vI a11, vI a12, vI (p1 &&& (3 : Int32)), .unset, .unset, .unset, .unset] [] t := by
   intro t kt
   refine pre102 _ ?_
   show SS p e below T0 m 134 #[vI p1, vI p2, vI p3, vI p4, vR a4, vI (Int32.ofNat i), vI m6, vI (((p1.toUInt32 >>> ((2 : Int32) &&& 31).toUInt32).toInt32) &&& (3 : Int32)), vI c8, vI a9, vI a10, vI a11, vI a12, vI (p1 &&& (3 : Int32)), .unset, .unset, .unset, .unset] [(.int m6), (.int c8)] _
   refine XS.icmpNo X0.here hx rfl (hb hby at_134) rfl (feq hc101).1 ?_
   refine XS.iload X0.here hx rfl (hb hby at_137) rfl ?_
   refine XS.bipush X0.here hx rfl (hb hby at_139) ?_
   exact kt
  by_cases hc103 : m6 < (97 : Int32)
  ·skip
   refine ⟨T0, h0, _, X0, e0, N0, rfl, fun target kt => pre104 _ ?_⟩
   show SS p e below T0 m 141 #[vI p1, vI p2, vI p3, vI p4, vR a4, vI (Int32.ofNat i), vI m6, vI (((p1.toUInt32 >>> ((2 : Int32) &&& 31).toUInt32).toInt32) &&& (3 : Int32)), vI c8, vI a9, vI a10, vI a11, vI a12, vI (p1 &&& (3 : Int32)), .unset, .unset, .unset, .unset] [(.int 97), (.int m6)] _
   refine XS.icmpYes X0.here hx rfl (pc0 := 141) (pc' := 166) rfl (hb hby at_141) rfl (tlt hc103).1 (by decide) (by decide) ?_
   refine XS.iconst X0.here hx rfl (hb hby at_166) ?_
   refine XS.istore X0.here hx rfl (hb hby at_167) rfl (l' := #[vI p1, vI p2, vI p3, vI p4, vR a4, vI (Int32.ofNat i), vI m6, vI (((p1.toUInt32 >>> ((2 : Int32) &&& 31).toUInt32).toInt32) &&& (3 : Int32)), vI c8, vI a9, vI a10, vI a11, vI a12, vI (p1 &&& (3 : Int32)), vI 0, .unset, .unset, .unset]) rfl ?_
   show SS p e below T0 m 169 #[vI p1, vI p2, vI p3, vI p4, vR a4, vI (Int32.ofNat i), vI m6, vI (((p1.toUInt32 >>> ((2 : Int32) &&& 31).toUInt32).toInt32) &&& (3 : Int32)), vI c8, vI a9, vI a10, vI a11, vI a12, vI (p1 &&& (3 : Int32)), vI 0, .unset, .unset, .unset] [] _
   rw [show smF c8 m6 = 0 by rw [smF, if_neg hc101, if_pos hc103]] at kt
   exact kt
  ·skip
   have pre106 : ∀ t, SS p e below T0 m 148 #[vI p1, vI p2, vI p3, vI p4, vR a4, vI (Int32.ofNat i), vI m6, vI (((p1.toUInt32 >>> ((2 : Int32) &&& 31).toUInt32).toInt32) &&& (3 : Int32)), vI c8, vI a9, vI a10, vI a11, vI a12, vI (p1 &&& (3 : Int32)), .unset, .unset, .unset, .unset] [(.int 122), (.int m6)] t → SS p e below T0 m 130 #[vI p1, vI p2, vI p3, vI p4, vR a4, vI (Int32.ofNat i), vI m6, vI (((p1.toUInt32 >>> ((2 : Int32) &&& 31).toUInt32).toInt32) &&& (3 : Int32)), vI c8, vI a9, vI a10, vI a11, vI a12, vI (p1 &&& (3 : Int32)), .unset, .unset, .unset, .unset] [] t := by
    intro t kt
    refine pre104 _ ?_
    show SS p e below T0 m 141 #[vI p1, vI p2, vI p3, vI p4, vR a4, vI (Int32.ofNat i), vI m6, vI (((p1.toUInt32 >>> ((2 : Int32) &&& 31).toUInt32).toInt32) &&& (3 : Int32)), vI c8, vI a9, vI a10, vI a11, vI a12, vI (p1 &&& (3 : Int32)), .unset, .unset, .unset, .unset] [(.int 97), (.int m6)] _
    refine XS.icmpNo X0.here hx rfl (hb hby at_141) rfl (flt hc103).1 ?_
    refine XS.iload X0.here hx rfl (hb hby at_144) rfl ?_
    refine XS.bipush X0.here hx rfl (hb hby at_146) ?_
    exact kt
   by_cases hc105 : (122 : Int32) < m6
   ·skip
    refine ⟨T0, h0, _, X0, e0, N0, rfl, fun target kt => pre106 _ ?_⟩
    show SS p e below T0 m 148 #[vI p1, vI p2, vI p3, vI p4, vR a4, vI (Int32.ofNat i), vI m6, vI (((p1.toUInt32 >>> ((2 : Int32) &&& 31).toUInt32).toInt32) &&& (3 : Int32)), vI c8, vI a9, vI a10, vI a11, vI a12, vI (p1 &&& (3 : Int32)), .unset, .unset, .unset, .unset] [(.int 122), (.int m6)] _
    refine XS.icmpYes X0.here hx rfl (pc0 := 148) (pc' := 166) rfl (hb hby at_148) rfl (tlt hc105).2.2.1 (by decide) (by decide) ?_
    refine XS.iconst X0.here hx rfl (hb hby at_166) ?_
    refine XS.istore X0.here hx rfl (hb hby at_167) rfl (l' := #[vI p1, vI p2, vI p3, vI p4, vR a4, vI (Int32.ofNat i), vI m6, vI (((p1.toUInt32 >>> ((2 : Int32) &&& 31).toUInt32).toInt32) &&& (3 : Int32)), vI c8, vI a9, vI a10, vI a11, vI a12, vI (p1 &&& (3 : Int32)), vI 0, .unset, .unset, .unset]) rfl ?_
    show SS p e below T0 m 169 #[vI p1, vI p2, vI p3, vI p4, vR a4, vI (Int32.ofNat i), vI m6, vI (((p1.toUInt32 >>> ((2 : Int32) &&& 31).toUInt32).toInt32) &&& (3 : Int32)), vI c8, vI a9, vI a10, vI a11, vI a12, vI (p1 &&& (3 : Int32)), vI 0, .unset, .unset, .unset] [] _
    rw [show smF c8 m6 = 0 by rw [smF, if_neg hc101, if_neg hc103, if_pos hc105]] at kt
    exact kt
   ·skip
    have pre108 : ∀ t, SS p e below T0 m 159 #[vI p1, vI p2, vI p3, vI p4, vR a4, vI (Int32.ofNat i), vI m6, vI (((p1.toUInt32 >>> ((2 : Int32) &&& 31).toUInt32).toInt32) &&& (3 : Int32)), vI c8, vI a9, vI a10, vI a11, vI a12, vI (p1 &&& (3 : Int32)), .unset, .unset, .unset, .unset] [(.int ((m6 - (32 : Int32)).toUInt32.toUInt16.toUInt32.toInt32)), (.int c8)] t → SS p e below T0 m 130 #[vI p1, vI p2, vI p3, vI p4, vR a4, vI (Int32.ofNat i), vI m6, vI (((p1.toUInt32 >>> ((2 : Int32) &&& 31).toUInt32).toInt32) &&& (3 : Int32)), vI c8, vI a9, vI a10, vI a11, vI a12, vI (p1 &&& (3 : Int32)), .unset, .unset, .unset, .unset] [] t := by
     intro t kt
     refine pre106 _ ?_
     show SS p e below T0 m 148 #[vI p1, vI p2, vI p3, vI p4, vR a4, vI (Int32.ofNat i), vI m6, vI (((p1.toUInt32 >>> ((2 : Int32) &&& 31).toUInt32).toInt32) &&& (3 : Int32)), vI c8, vI a9, vI a10, vI a11, vI a12, vI (p1 &&& (3 : Int32)), .unset, .unset, .unset, .unset] [(.int 122), (.int m6)] _
     refine XS.icmpNo X0.here hx rfl (hb hby at_148) rfl (flt hc105).2.2.1 ?_
     refine XS.iload X0.here hx rfl (hb hby at_151) rfl ?_
     refine XS.iload X0.here hx rfl (hb hby at_153) rfl ?_
     refine XS.bipush X0.here hx rfl (hb hby at_155) ?_
     refine XS.isub X0.here hx rfl (hb hby at_157) rfl ?_
     refine XS.i2c X0.here hx rfl (hb hby at_158) rfl ?_
     exact kt
    by_cases hc107 : c8 = ((m6 - (32 : Int32)).toUInt32.toUInt16.toUInt32.toInt32)
    ·skip
     refine ⟨T0, h0, _, X0, e0, N0, rfl, fun target kt => pre108 _ ?_⟩
     show SS p e below T0 m 159 #[vI p1, vI p2, vI p3, vI p4, vR a4, vI (Int32.ofNat i), vI m6, vI (((p1.toUInt32 >>> ((2 : Int32) &&& 31).toUInt32).toInt32) &&& (3 : Int32)), vI c8, vI a9, vI a10, vI a11, vI a12, vI (p1 &&& (3 : Int32)), .unset, .unset, .unset, .unset] [(.int ((m6 - (32 : Int32)).toUInt32.toUInt16.toUInt32.toInt32)), (.int c8)] _
     refine XS.icmpNo X0.here hx rfl (hb hby at_159) rfl (teq hc107).2 ?_
     refine XS.iconst X0.here hx rfl (hb hby at_162) ?_
     refine XS.goto X0.here hx rfl (pc0 := 163) (pc' := 167) rfl (hb hby at_163) (by decide) (by decide) ?_
     refine XS.istore X0.here hx rfl (hb hby at_167) rfl (l' := #[vI p1, vI p2, vI p3, vI p4, vR a4, vI (Int32.ofNat i), vI m6, vI (((p1.toUInt32 >>> ((2 : Int32) &&& 31).toUInt32).toInt32) &&& (3 : Int32)), vI c8, vI a9, vI a10, vI a11, vI a12, vI (p1 &&& (3 : Int32)), vI 1, .unset, .unset, .unset]) rfl ?_
     show SS p e below T0 m 169 #[vI p1, vI p2, vI p3, vI p4, vR a4, vI (Int32.ofNat i), vI m6, vI (((p1.toUInt32 >>> ((2 : Int32) &&& 31).toUInt32).toInt32) &&& (3 : Int32)), vI c8, vI a9, vI a10, vI a11, vI a12, vI (p1 &&& (3 : Int32)), vI 1, .unset, .unset, .unset] [] _
     rw [show smF c8 m6 = 1 by rw [smF, if_neg hc101, if_neg hc103, if_neg hc105, if_pos hc107]] at kt
     exact kt
    ·skip
     refine ⟨T0, h0, _, X0, e0, N0, rfl, fun target kt => pre108 _ ?_⟩
     show SS p e below T0 m 159 #[vI p1, vI p2, vI p3, vI p4, vR a4, vI (Int32.ofNat i), vI m6, vI (((p1.toUInt32 >>> ((2 : Int32) &&& 31).toUInt32).toInt32) &&& (3 : Int32)), vI c8, vI a9, vI a10, vI a11, vI a12, vI (p1 &&& (3 : Int32)), .unset, .unset, .unset, .unset] [(.int ((m6 - (32 : Int32)).toUInt32.toUInt16.toUInt32.toInt32)), (.int c8)] _
     refine XS.icmpYes X0.here hx rfl (pc0 := 159) (pc' := 166) rfl (hb hby at_159) rfl (feq hc107).2 (by decide) (by decide) ?_
     refine XS.iconst X0.here hx rfl (hb hby at_166) ?_
     refine XS.istore X0.here hx rfl (hb hby at_167) rfl (l' := #[vI p1, vI p2, vI p3, vI p4, vR a4, vI (Int32.ofNat i), vI m6, vI (((p1.toUInt32 >>> ((2 : Int32) &&& 31).toUInt32).toInt32) &&& (3 : Int32)), vI c8, vI a9, vI a10, vI a11, vI a12, vI (p1 &&& (3 : Int32)), vI 0, .unset, .unset, .unset]) rfl ?_
     show SS p e below T0 m 169 #[vI p1, vI p2, vI p3, vI p4, vR a4, vI (Int32.ofNat i), vI m6, vI (((p1.toUInt32 >>> ((2 : Int32) &&& 31).toUInt32).toInt32) &&& (3 : Int32)), vI c8, vI a9, vI a10, vI a11, vI a12, vI (p1 &&& (3 : Int32)), vI 0, .unset, .unset, .unset] [] _
     rw [show smF c8 m6 = 0 by rw [smF, if_neg hc101, if_neg hc103, if_neg hc105, if_neg hc107]] at kt
     exact kt
theorem pd_24 : parseMethodDescriptor "(C)Z" = some ⟨[.char], some .boolean⟩ := by decide +kernel
theorem tnR {p : Program} {l : Launch} {e : Env} {s : State} {m : MethodId} {args : Array Value} {below : List Frame} {meth : Method} {c : Code} {T0 : State} {locs : List Loc} {Z : State} {a0 : Array Value} {h0 : Heap} {n0 : Nat} (p1 p2 p3 p4 m6 c8 a9 a10 a11 a12 s14 : Int32) (a4 a15 : Addr) (i : Nat)
  (X0 : Stand p l e room_1 s m args below meth c T0 locs 5 300) (hx : p.tables.exec = Jvm.exec) (hZ : Z.Warmed39 s.vm) (hw : HW a0 Z) (hby : c.code = code) (hml : c.maxLocals = 18) (hown : s.vm.findClass "com/example/brisk_hub/briskhub/http/FormIsFormPinLaw" = some m.cls) (e0 : T0.heap = h0) (O0 : Old Z n0 h0) (N0 : Fr n0 locs) :
  ∃ (T' : State) (h' : Heap) (L' : List Loc), Stand p l e room_1 s m args below meth c T' L' 5 300 ∧ T'.heap = h' ∧ Fr n0 L' ∧ h' = h0 ∧ ∀ target, SS p e below T' m 712 #[vI p1, vI p2, vI p3, vI p4, vR a4, vI (Int32.ofNat i), vI m6, vI (((p1.toUInt32 >>> ((2 : Int32) &&& 31).toUInt32).toInt32) &&& (3 : Int32)), vI c8, vI a9, vI a10, vI a11, vI a12, vI (p1 &&& (3 : Int32)), vI s14, vR a15, vI (rsF a10 a11 a12), .unset] [] target → SS p e below T0 m 660 #[vI p1, vI p2, vI p3, vI p4, vR a4, vI (Int32.ofNat i), vI m6, vI (((p1.toUInt32 >>> ((2 : Int32) &&& 31).toUInt32).toInt32) &&& (3 : Int32)), vI c8, vI a9, vI a10, vI a11, vI a12, vI (p1 &&& (3 : Int32)), vI s14, vR a15, .unset, .unset] [] target := by
 have hn0 : n0 ≤ h0.size := O0.1 ▸ O0.2.1
 have pre0 : ∀ t, SS p e below T0 m 660 #[vI p1, vI p2, vI p3, vI p4, vR a4, vI (Int32.ofNat i), vI m6, vI (((p1.toUInt32 >>> ((2 : Int32) &&& 31).toUInt32).toInt32) &&& (3 : Int32)), vI c8, vI a9, vI a10, vI a11, vI a12, vI (p1 &&& (3 : Int32)), vI s14, vR a15, .unset, .unset] [] t → SS p e below T0 m 660 #[vI p1, vI p2, vI p3, vI p4, vR a4, vI (Int32.ofNat i), vI m6, vI (((p1.toUInt32 >>> ((2 : Int32) &&& 31).toUInt32).toInt32) &&& (3 : Int32)), vI c8, vI a9, vI a10, vI a11, vI a12, vI (p1 &&& (3 : Int32)), vI s14, vR a15, .unset, .unset] [] t := fun t k => k
 have pre102 : ∀ t, SS p e below T0 m 664 #[vI p1, vI p2, vI p3, vI p4, vR a4, vI (Int32.ofNat i), vI m6, vI (((p1.toUInt32 >>> ((2 : Int32) &&& 31).toUInt32).toInt32) &&& (3 : Int32)), vI c8, vI a9, vI a10, vI a11, vI a12, vI (p1 &&& (3 : Int32)), vI s14, vR a15, .unset, .unset] [(.int 59), (.int a10)] t → SS p e below T0 m 660 #[vI p1, vI p2, vI p3, vI p4, vR a4, vI (Int32.ofNat i), vI m6, vI (((p1.toUInt32 >>> ((2 : Int32) &&& 31).toUInt32).toInt32) &&& (3 : Int32)), vI c8, vI a9, vI a10, vI a11, vI a12, vI (p1 &&& (3 : Int32)), vI s14, vR a15, .unset, .unset] [] t := by
  intro t kt
  refine pre0 _ ?_
  show SS p e below T0 m 660 #[vI p1, vI p2, vI p3, vI p4, vR a4, vI (Int32.ofNat i), vI m6, vI (((p1.toUInt32 >>> ((2 : Int32) &&& 31).toUInt32).toInt32) &&& (3 : Int32)), vI c8, vI a9, vI a10, vI a11, vI a12, vI (p1 &&& (3 : Int32)), vI s14, vR a15, .unset, .unset] [] _
  refine XS.iload X0.here hx rfl (hb hby at_660) rfl ?_
  refine XS.bipush X0.here hx rfl (hb hby at_662) ?_
  exact kt
 by_cases hc101 : a10 = (59 : Int32)
 ·skip
  refine ⟨T0, h0, _, X0, e0, N0, rfl, fun target kt => pre102 _ ?_⟩
  show SS p e below T0 m 664 #[vI p1, vI p2, vI p3, vI p4, vR a4, vI (Int32.ofNat i), vI m6, vI (((p1.toUInt32 >>> ((2 : Int32) &&& 31).toUInt32).toInt32) &&& (3 : Int32)), vI c8, vI a9, vI a10, vI a11, vI a12, vI (p1 &&& (3 : Int32)), vI s14, vR a15, .unset, .unset] [(.int 59), (.int a10)] _
  refine XS.icmpYes X0.here hx rfl (pc0 := 664) (pc' := 705) rfl (hb hby at_664) rfl (teq hc101).1 (by decide) (by decide) ?_
  refine XS.iconst X0.here hx rfl (hb hby at_705) ?_
  refine XS.goto X0.here hx rfl (pc0 := 706) (pc' := 710) rfl (hb hby at_706) (by decide) (by decide) ?_
  refine XS.istore X0.here hx rfl (hb hby at_710) rfl (l' := #[vI p1, vI p2, vI p3, vI p4, vR a4, vI (Int32.ofNat i), vI m6, vI (((p1.toUInt32 >>> ((2 : Int32) &&& 31).toUInt32).toInt32) &&& (3 : Int32)), vI c8, vI a9, vI a10, vI a11, vI a12, vI (p1 &&& (3 : Int32)), vI s14, vR a15, vI 1, .unset]) rfl ?_
  show SS p e below T0 m 712 #[vI p1, vI p2, vI p3, vI p4, vR a4, vI (Int32.ofNat i), vI m6, vI (((p1.toUInt32 >>> ((2 : Int32) &&& 31).toUInt32).toInt32) &&& (3 : Int32)), vI c8, vI a9, vI a10, vI a11, vI a12, vI (p1 &&& (3 : Int32)), vI s14, vR a15, vI 1, .unset] [] _
  rw [show rsF a10 a11 a12 = 1 by rw [rsF, if_pos hc101]] at kt
  exact kt
 ·skip
  obtain ⟨_, _, ⟨T103, L103, k103, n103⟩, -, X103, ⟨Lc103, hQ103, l103, y103, z103⟩, st103⟩ := Jvm.LawKit.callS X0 hx (y := mN34) hown (mvT hZ (tw hw 143 rfl)) (mvT hZ (tw hw 144 rfl)) (mvT hZ (tw hw 145 rfl)) (mvT hZ (tw hw 146 rfl)) (by decide) (backOf (W := 0) (rmWs l Z a0 hw [] a10  h0 n0 O0 ) hZ (tw hw 146 rfl) (tw hw 145 rfl) (by decide) (by decide)) (g := (mkF m 669 #[vI p1, vI p2, vI p3, vI p4, vR a4, vI (Int32.ofNat i), vI m6, vI (((p1.toUInt32 >>> ((2 : Int32) &&& 31).toUInt32).toInt32) &&& (3 : Int32)), vI c8, vI a9, vI a10, vI a11, vI a12, vI (p1 &&& (3 : Int32)), vI s14, vR a15, .unset, .unset] [(.int a10)])) rfl (by rw [hml]; rfl) (argsL := [(.int a10)]) (rest := []) (lenOf pd_24 rfl) rfl (wL _) (hb hby at_669) (fun _ _ => ⟨rfl, e0, (by decide : 5 + 0 ≤ _), (by decide : 300 + 0 ≤ _)⟩)
  dsimp only [Pt.U, Pt.locs, Pt.cells, Pt.slots] at X103 l103 y103 z103 st103 hQ103
  rw [l103] at X103
  subst y103 z103
  obtain ⟨rfl, N103q, H103⟩ := hQ103
  have N103 := Fr.app N0 N103q
  have pre105 : ∀ t, SS p e below T103 m 672 #[vI p1, vI p2, vI p3, vI p4, vR a4, vI (Int32.ofNat i), vI m6, vI (((p1.toUInt32 >>> ((2 : Int32) &&& 31).toUInt32).toInt32) &&& (3 : Int32)), vI c8, vI a9, vI a10, vI a11, vI a12, vI (p1 &&& (3 : Int32)), vI s14, vR a15, .unset, .unset] [(.int (wsC a10))] t → SS p e below T0 m 660 #[vI p1, vI p2, vI p3, vI p4, vR a4, vI (Int32.ofNat i), vI m6, vI (((p1.toUInt32 >>> ((2 : Int32) &&& 31).toUInt32).toInt32) &&& (3 : Int32)), vI c8, vI a9, vI a10, vI a11, vI a12, vI (p1 &&& (3 : Int32)), vI s14, vR a15, .unset, .unset] [] t := by
   intro t kt
   refine pre102 _ ?_
   show SS p e below T0 m 664 #[vI p1, vI p2, vI p3, vI p4, vR a4, vI (Int32.ofNat i), vI m6, vI (((p1.toUInt32 >>> ((2 : Int32) &&& 31).toUInt32).toInt32) &&& (3 : Int32)), vI c8, vI a9, vI a10, vI a11, vI a12, vI (p1 &&& (3 : Int32)), vI s14, vR a15, .unset, .unset] [(.int 59), (.int a10)] _
   refine XS.icmpNo X0.here hx rfl (hb hby at_664) rfl (feq hc101).1 ?_
   refine XS.iload X0.here hx rfl (hb hby at_667) rfl ?_
   show SS p e below T0 m 669 #[vI p1, vI p2, vI p3, vI p4, vR a4, vI (Int32.ofNat i), vI m6, vI (((p1.toUInt32 >>> ((2 : Int32) &&& 31).toUInt32).toInt32) &&& (3 : Int32)), vI c8, vI a9, vI a10, vI a11, vI a12, vI (p1 &&& (3 : Int32)), vI s14, vR a15, .unset, .unset] [(.int a10)] _
   refine st103 _ ?_
   exact kt
  by_cases hc104 : (wsC a10) = (0 : Int32)
  ·skip
   refine ⟨T103, h0, _, X103, H103, N103, rfl, fun target kt => pre105 _ ?_⟩
   show SS p e below T103 m 672 #[vI p1, vI p2, vI p3, vI p4, vR a4, vI (Int32.ofNat i), vI m6, vI (((p1.toUInt32 >>> ((2 : Int32) &&& 31).toUInt32).toInt32) &&& (3 : Int32)), vI c8, vI a9, vI a10, vI a11, vI a12, vI (p1 &&& (3 : Int32)), vI s14, vR a15, .unset, .unset] [(.int (wsC a10))] _
   refine XS.ifYes X103.here hx rfl (pc0 := 672) (pc' := 709) rfl (hb hby at_672) rfl ((if0 _ _).trans (teq hc104).1) (by decide) (by decide) ?_
   refine XS.iconst X103.here hx rfl (hb hby at_709) ?_
   refine XS.istore X103.here hx rfl (hb hby at_710) rfl (l' := #[vI p1, vI p2, vI p3, vI p4, vR a4, vI (Int32.ofNat i), vI m6, vI (((p1.toUInt32 >>> ((2 : Int32) &&& 31).toUInt32).toInt32) &&& (3 : Int32)), vI c8, vI a9, vI a10, vI a11, vI a12, vI (p1 &&& (3 : Int32)), vI s14, vR a15, vI 0, .unset]) rfl ?_
   show SS p e below T103 m 712 #[vI p1, vI p2, vI p3, vI p4, vR a4, vI (Int32.ofNat i), vI m6, vI (((p1.toUInt32 >>> ((2 : Int32) &&& 31).toUInt32).toInt32) &&& (3 : Int32)), vI c8, vI a9, vI a10, vI a11, vI a12, vI (p1 &&& (3 : Int32)), vI s14, vR a15, vI 0, .unset] [] _
   rw [show rsF a10 a11 a12 = 0 by rw [rsF, if_neg hc101, if_pos hc104]] at kt
   exact kt
  ·skip
   have pre107 : ∀ t, SS p e below T103 m 679 #[vI p1, vI p2, vI p3, vI p4, vR a4, vI (Int32.ofNat i), vI m6, vI (((p1.toUInt32 >>> ((2 : Int32) &&& 31).toUInt32).toInt32) &&& (3 : Int32)), vI c8, vI a9, vI a10, vI a11, vI a12, vI (p1 &&& (3 : Int32)), vI s14, vR a15, .unset, .unset] [(.int 59), (.int a11)] t → SS p e below T0 m 660 #[vI p1, vI p2, vI p3, vI p4, vR a4, vI (Int32.ofNat i), vI m6, vI (((p1.toUInt32 >>> ((2 : Int32) &&& 31).toUInt32).toInt32) &&& (3 : Int32)), vI c8, vI a9, vI a10, vI a11, vI a12, vI (p1 &&& (3 : Int32)), vI s14, vR a15, .unset, .unset] [] t := by
    intro t kt
    refine pre105 _ ?_
    show SS p e below T103 m 672 #[vI p1, vI p2, vI p3, vI p4, vR a4, vI (Int32.ofNat i), vI m6, vI (((p1.toUInt32 >>> ((2 : Int32) &&& 31).toUInt32).toInt32) &&& (3 : Int32)), vI c8, vI a9, vI a10, vI a11, vI a12, vI (p1 &&& (3 : Int32)), vI s14, vR a15, .unset, .unset] [(.int (wsC a10))] _
    refine XS.ifNo X103.here hx rfl (hb hby at_672) rfl ((if0 _ _).trans (feq hc104).1) ?_
    refine XS.iload X103.here hx rfl (hb hby at_675) rfl ?_
    refine XS.bipush X103.here hx rfl (hb hby at_677) ?_
    exact kt
   by_cases hc106 : a11 = (59 : Int32)
   ·skip
    refine ⟨T103, h0, _, X103, H103, N103, rfl, fun target kt => pre107 _ ?_⟩
    show SS p e below T103 m 679 #[vI p1, vI p2, vI p3, vI p4, vR a4, vI (Int32.ofNat i), vI m6, vI (((p1.toUInt32 >>> ((2 : Int32) &&& 31).toUInt32).toInt32) &&& (3 : Int32)), vI c8, vI a9, vI a10, vI a11, vI a12, vI (p1 &&& (3 : Int32)), vI s14, vR a15, .unset, .unset] [(.int 59), (.int a11)] _
    refine XS.icmpYes X103.here hx rfl (pc0 := 679) (pc' := 705) rfl (hb hby at_679) rfl (teq hc106).1 (by decide) (by decide) ?_
    refine XS.iconst X103.here hx rfl (hb hby at_705) ?_
    refine XS.goto X103.here hx rfl (pc0 := 706) (pc' := 710) rfl (hb hby at_706) (by decide) (by decide) ?_
    refine XS.istore X103.here hx rfl (hb hby at_710) rfl (l' := #[vI p1, vI p2, vI p3, vI p4, vR a4, vI (Int32.ofNat i), vI m6, vI (((p1.toUInt32 >>> ((2 : Int32) &&& 31).toUInt32).toInt32) &&& (3 : Int32)), vI c8, vI a9, vI a10, vI a11, vI a12, vI (p1 &&& (3 : Int32)), vI s14, vR a15, vI 1, .unset]) rfl ?_
    show SS p e below T103 m 712 #[vI p1, vI p2, vI p3, vI p4, vR a4, vI (Int32.ofNat i), vI m6, vI (((p1.toUInt32 >>> ((2 : Int32) &&& 31).toUInt32).toInt32) &&& (3 : Int32)), vI c8, vI a9, vI a10, vI a11, vI a12, vI (p1 &&& (3 : Int32)), vI s14, vR a15, vI 1, .unset] [] _
    rw [show rsF a10 a11 a12 = 1 by rw [rsF, if_neg hc101, if_neg hc104, if_pos hc106]] at kt
    exact kt
   ·skip
    obtain ⟨_, _, ⟨T108, L108, k108, n108⟩, -, X108, ⟨Lc108, hQ108, l108, y108, z108⟩, st108⟩ := Jvm.LawKit.callS X103 hx (y := mN34) hown (mvT hZ (tw hw 143 rfl)) (mvT hZ (tw hw 144 rfl)) (mvT hZ (tw hw 145 rfl)) (mvT hZ (tw hw 146 rfl)) (by decide) (backOf (W := 0) (rmWs l Z a0 hw [] a11  h0 n0 O0 ) hZ (tw hw 146 rfl) (tw hw 145 rfl) (by decide) (by decide)) (g := (mkF m 684 #[vI p1, vI p2, vI p3, vI p4, vR a4, vI (Int32.ofNat i), vI m6, vI (((p1.toUInt32 >>> ((2 : Int32) &&& 31).toUInt32).toInt32) &&& (3 : Int32)), vI c8, vI a9, vI a10, vI a11, vI a12, vI (p1 &&& (3 : Int32)), vI s14, vR a15, .unset, .unset] [(.int a11)])) rfl (by rw [hml]; rfl) (argsL := [(.int a11)]) (rest := []) (lenOf pd_24 rfl) rfl (wL _) (hb hby at_684) (fun _ _ => ⟨rfl, H103, (by decide : 5 + 0 ≤ _), (by decide : 300 + 0 ≤ _)⟩)
    dsimp only [Pt.U, Pt.locs, Pt.cells, Pt.slots] at X108 l108 y108 z108 st108 hQ108
    rw [l108] at X108
    subst y108 z108
    obtain ⟨rfl, N108q, H108⟩ := hQ108
    have N108 := Fr.app N103 N108q
    have pre110 : ∀ t, SS p e below T108 m 687 #[vI p1, vI p2, vI p3, vI p4, vR a4, vI (Int32.ofNat i), vI m6, vI (((p1.toUInt32 >>> ((2 : Int32) &&& 31).toUInt32).toInt32) &&& (3 : Int32)), vI c8, vI a9, vI a10, vI a11, vI a12, vI (p1 &&& (3 : Int32)), vI s14, vR a15, .unset, .unset] [(.int (wsC a11))] t → SS p e below T0 m 660 #[vI p1, vI p2, vI p3, vI p4, vR a4, vI (Int32.ofNat i), vI m6, vI (((p1.toUInt32 >>> ((2 : Int32) &&& 31).toUInt32).toInt32) &&& (3 : Int32)), vI c8, vI a9, vI a10, vI a11, vI a12, vI (p1 &&& (3 : Int32)), vI s14, vR a15, .unset, .unset] [] t := by
     intro t kt
     refine pre107 _ ?_
     show SS p e below T103 m 679 #[vI p1, vI p2, vI p3, vI p4, vR a4, vI (Int32.ofNat i), vI m6, vI (((p1.toUInt32 >>> ((2 : Int32) &&& 31).toUInt32).toInt32) &&& (3 : Int32)), vI c8, vI a9, vI a10, vI a11, vI a12, vI (p1 &&& (3 : Int32)), vI s14, vR a15, .unset, .unset] [(.int 59), (.int a11)] _
     refine XS.icmpNo X103.here hx rfl (hb hby at_679) rfl (feq hc106).1 ?_
     refine XS.iload X103.here hx rfl (hb hby at_682) rfl ?_
     show SS p e below T103 m 684 #[vI p1, vI p2, vI p3, vI p4, vR a4, vI (Int32.ofNat i), vI m6, vI (((p1.toUInt32 >>> ((2 : Int32) &&& 31).toUInt32).toInt32) &&& (3 : Int32)), vI c8, vI a9, vI a10, vI a11, vI a12, vI (p1 &&& (3 : Int32)), vI s14, vR a15, .unset, .unset] [(.int a11)] _
     refine st108 _ ?_
     exact kt
    by_cases hc109 : (wsC a11) = (0 : Int32)
    ·skip
     refine ⟨T108, h0, _, X108, H108, N108, rfl, fun target kt => pre110 _ ?_⟩
     show SS p e below T108 m 687 #[vI p1, vI p2, vI p3, vI p4, vR a4, vI (Int32.ofNat i), vI m6, vI (((p1.toUInt32 >>> ((2 : Int32) &&& 31).toUInt32).toInt32) &&& (3 : Int32)), vI c8, vI a9, vI a10, vI a11, vI a12, vI (p1 &&& (3 : Int32)), vI s14, vR a15, .unset, .unset] [(.int (wsC a11))] _
     refine XS.ifYes X108.here hx rfl (pc0 := 687) (pc' := 709) rfl (hb hby at_687) rfl ((if0 _ _).trans (teq hc109).1) (by decide) (by decide) ?_
     refine XS.iconst X108.here hx rfl (hb hby at_709) ?_
     refine XS.istore X108.here hx rfl (hb hby at_710) rfl (l' := #[vI p1, vI p2, vI p3, vI p4, vR a4, vI (Int32.ofNat i), vI m6, vI (((p1.toUInt32 >>> ((2 : Int32) &&& 31).toUInt32).toInt32) &&& (3 : Int32)), vI c8, vI a9, vI a10, vI a11, vI a12, vI (p1 &&& (3 : Int32)), vI s14, vR a15, vI 0, .unset]) rfl ?_
     show SS p e below T108 m 712 #[vI p1, vI p2, vI p3, vI p4, vR a4, vI (Int32.ofNat i), vI m6, vI (((p1.toUInt32 >>> ((2 : Int32) &&& 31).toUInt32).toInt32) &&& (3 : Int32)), vI c8, vI a9, vI a10, vI a11, vI a12, vI (p1 &&& (3 : Int32)), vI s14, vR a15, vI 0, .unset] [] _
     rw [show rsF a10 a11 a12 = 0 by rw [rsF, if_neg hc101, if_neg hc104, if_neg hc106, if_pos hc109]] at kt
     exact kt
    ·skip
     have pre112 : ∀ t, SS p e below T108 m 694 #[vI p1, vI p2, vI p3, vI p4, vR a4, vI (Int32.ofNat i), vI m6, vI (((p1.toUInt32 >>> ((2 : Int32) &&& 31).toUInt32).toInt32) &&& (3 : Int32)), vI c8, vI a9, vI a10, vI a11, vI a12, vI (p1 &&& (3 : Int32)), vI s14, vR a15, .unset, .unset] [(.int 59), (.int a12)] t → SS p e below T0 m 660 #[vI p1, vI p2, vI p3, vI p4, vR a4, vI (Int32.ofNat i), vI m6, vI (((p1.toUInt32 >>> ((2 : Int32) &&& 31).toUInt32).toInt32) &&& (3 : Int32)), vI c8, vI a9, vI a10, vI a11, vI a12, vI (p1 &&& (3 : Int32)), vI s14, vR a15, .unset, .unset] [] t := by
      intro t kt
      refine pre110 _ ?_
      show SS p e below T108 m 687 #[vI p1, vI p2, vI p3, vI p4, vR a4, vI (Int32.ofNat i), vI m6, vI (((p1.toUInt32 >>> ((2 : Int32) &&& 31).toUInt32).toInt32) &&& (3 : Int32)), vI c8, vI a9, vI a10, vI a11, vI a12, vI (p1 &&& (3 : Int32)), vI s14, vR a15, .unset, .unset] [(.int (wsC a11))] _
      refine XS.ifNo X108.here hx rfl (hb hby at_687) rfl ((if0 _ _).trans (feq hc109).1) ?_
      refine XS.iload X108.here hx rfl (hb hby at_690) rfl ?_
      refine XS.bipush X108.here hx rfl (hb hby at_692) ?_
      exact kt
     by_cases hc111 : a12 = (59 : Int32)
     ·skip
      refine ⟨T108, h0, _, X108, H108, N108, rfl, fun target kt => pre112 _ ?_⟩
      show SS p e below T108 m 694 #[vI p1, vI p2, vI p3, vI p4, vR a4, vI (Int32.ofNat i), vI m6, vI (((p1.toUInt32 >>> ((2 : Int32) &&& 31).toUInt32).toInt32) &&& (3 : Int32)), vI c8, vI a9, vI a10, vI a11, vI a12, vI (p1 &&& (3 : Int32)), vI s14, vR a15, .unset, .unset] [(.int 59), (.int a12)] _
      refine XS.icmpYes X108.here hx rfl (pc0 := 694) (pc' := 705) rfl (hb hby at_694) rfl (teq hc111).1 (by decide) (by decide) ?_
      refine XS.iconst X108.here hx rfl (hb hby at_705) ?_
      refine XS.goto X108.here hx rfl (pc0 := 706) (pc' := 710) rfl (hb hby at_706) (by decide) (by decide) ?_
      refine XS.istore X108.here hx rfl (hb hby at_710) rfl (l' := #[vI p1, vI p2, vI p3, vI p4, vR a4, vI (Int32.ofNat i), vI m6, vI (((p1.toUInt32 >>> ((2 : Int32) &&& 31).toUInt32).toInt32) &&& (3 : Int32)), vI c8, vI a9, vI a10, vI a11, vI a12, vI (p1 &&& (3 : Int32)), vI s14, vR a15, vI 1, .unset]) rfl ?_
      show SS p e below T108 m 712 #[vI p1, vI p2, vI p3, vI p4, vR a4, vI (Int32.ofNat i), vI m6, vI (((p1.toUInt32 >>> ((2 : Int32) &&& 31).toUInt32).toInt32) &&& (3 : Int32)), vI c8, vI a9, vI a10, vI a11, vI a12, vI (p1 &&& (3 : Int32)), vI s14, vR a15, vI 1, .unset] [] _
      rw [show rsF a10 a11 a12 = 1 by rw [rsF, if_neg hc101, if_neg hc104, if_neg hc106, if_neg hc109, if_pos hc111]] at kt
      exact kt
     ·skip
      obtain ⟨_, _, ⟨T113, L113, k113, n113⟩, -, X113, ⟨Lc113, hQ113, l113, y113, z113⟩, st113⟩ := Jvm.LawKit.callS X108 hx (y := mN34) hown (mvT hZ (tw hw 143 rfl)) (mvT hZ (tw hw 144 rfl)) (mvT hZ (tw hw 145 rfl)) (mvT hZ (tw hw 146 rfl)) (by decide) (backOf (W := 0) (rmWs l Z a0 hw [] a12  h0 n0 O0 ) hZ (tw hw 146 rfl) (tw hw 145 rfl) (by decide) (by decide)) (g := (mkF m 699 #[vI p1, vI p2, vI p3, vI p4, vR a4, vI (Int32.ofNat i), vI m6, vI (((p1.toUInt32 >>> ((2 : Int32) &&& 31).toUInt32).toInt32) &&& (3 : Int32)), vI c8, vI a9, vI a10, vI a11, vI a12, vI (p1 &&& (3 : Int32)), vI s14, vR a15, .unset, .unset] [(.int a12)])) rfl (by rw [hml]; rfl) (argsL := [(.int a12)]) (rest := []) (lenOf pd_24 rfl) rfl (wL _) (hb hby at_699) (fun _ _ => ⟨rfl, H108, (by decide : 5 + 0 ≤ _), (by decide : 300 + 0 ≤ _)⟩)
      dsimp only [Pt.U, Pt.locs, Pt.cells, Pt.slots] at X113 l113 y113 z113 st113 hQ113
      rw [l113] at X113
      subst y113 z113
      obtain ⟨rfl, N113q, H113⟩ := hQ113
      have N113 := Fr.app N108 N113q
      have pre115 : ∀ t, SS p e below T113 m 702 #[vI p1, vI p2, vI p3, vI p4, vR a4, vI (Int32.ofNat i), vI m6, vI (((p1.toUInt32 >>> ((2 : Int32) &&& 31).toUInt32).toInt32) &&& (3 : Int32)), vI c8, vI a9, vI a10, vI a11, vI a12, vI (p1 &&& (3 : Int32)), vI s14, vR a15, .unset, .unset] [(.int (wsC a12))] t → SS p e below T0 m 660 #[vI p1, vI p2, vI p3, vI p4, vR a4, vI (Int32.ofNat i), vI m6, vI (((p1.toUInt32 >>> ((2 : Int32) &&& 31).toUInt32).toInt32) &&& (3 : Int32)), vI c8, vI a9, vI a10, vI a11, vI a12, vI (p1 &&& (3 : Int32)), vI s14, vR a15, .unset, .unset] [] t := by
       intro t kt
       refine pre112 _ ?_
       show SS p e below T108 m 694 #[vI p1, vI p2, vI p3, vI p4, vR a4, vI (Int32.ofNat i), vI m6, vI (((p1.toUInt32 >>> ((2 : Int32) &&& 31).toUInt32).toInt32) &&& (3 : Int32)), vI c8, vI a9, vI a10, vI a11, vI a12, vI (p1 &&& (3 : Int32)), vI s14, vR a15, .unset, .unset] [(.int 59), (.int a12)] _
       refine XS.icmpNo X108.here hx rfl (hb hby at_694) rfl (feq hc111).1 ?_
       refine XS.iload X108.here hx rfl (hb hby at_697) rfl ?_
       show SS p e below T108 m 699 #[vI p1, vI p2, vI p3, vI p4, vR a4, vI (Int32.ofNat i), vI m6, vI (((p1.toUInt32 >>> ((2 : Int32) &&& 31).toUInt32).toInt32) &&& (3 : Int32)), vI c8, vI a9, vI a10, vI a11, vI a12, vI (p1 &&& (3 : Int32)), vI s14, vR a15, .unset, .unset] [(.int a12)] _
       refine st113 _ ?_
       exact kt
      by_cases hc114 : (wsC a12) = (0 : Int32)
      ·skip
       refine ⟨T113, h0, _, X113, H113, N113, rfl, fun target kt => pre115 _ ?_⟩
       show SS p e below T113 m 702 #[vI p1, vI p2, vI p3, vI p4, vR a4, vI (Int32.ofNat i), vI m6, vI (((p1.toUInt32 >>> ((2 : Int32) &&& 31).toUInt32).toInt32) &&& (3 : Int32)), vI c8, vI a9, vI a10, vI a11, vI a12, vI (p1 &&& (3 : Int32)), vI s14, vR a15, .unset, .unset] [(.int (wsC a12))] _
       refine XS.ifYes X113.here hx rfl (pc0 := 702) (pc' := 709) rfl (hb hby at_702) rfl ((if0 _ _).trans (teq hc114).1) (by decide) (by decide) ?_
       refine XS.iconst X113.here hx rfl (hb hby at_709) ?_
       refine XS.istore X113.here hx rfl (hb hby at_710) rfl (l' := #[vI p1, vI p2, vI p3, vI p4, vR a4, vI (Int32.ofNat i), vI m6, vI (((p1.toUInt32 >>> ((2 : Int32) &&& 31).toUInt32).toInt32) &&& (3 : Int32)), vI c8, vI a9, vI a10, vI a11, vI a12, vI (p1 &&& (3 : Int32)), vI s14, vR a15, vI 0, .unset]) rfl ?_
       show SS p e below T113 m 712 #[vI p1, vI p2, vI p3, vI p4, vR a4, vI (Int32.ofNat i), vI m6, vI (((p1.toUInt32 >>> ((2 : Int32) &&& 31).toUInt32).toInt32) &&& (3 : Int32)), vI c8, vI a9, vI a10, vI a11, vI a12, vI (p1 &&& (3 : Int32)), vI s14, vR a15, vI 0, .unset] [] _
       rw [show rsF a10 a11 a12 = 0 by rw [rsF, if_neg hc101, if_neg hc104, if_neg hc106, if_neg hc109, if_neg hc111, if_pos hc114]] at kt
       exact kt
      ·skip
       refine ⟨T113, h0, _, X113, H113, N113, rfl, fun target kt => pre115 _ ?_⟩
       show SS p e below T113 m 702 #[vI p1, vI p2, vI p3, vI p4, vR a4, vI (Int32.ofNat i), vI m6, vI (((p1.toUInt32 >>> ((2 : Int32) &&& 31).toUInt32).toInt32) &&& (3 : Int32)), vI c8, vI a9, vI a10, vI a11, vI a12, vI (p1 &&& (3 : Int32)), vI s14, vR a15, .unset, .unset] [(.int (wsC a12))] _
       refine XS.ifNo X113.here hx rfl (hb hby at_702) rfl ((if0 _ _).trans (feq hc114).1) ?_
       refine XS.iconst X113.here hx rfl (hb hby at_705) ?_
       refine XS.goto X113.here hx rfl (pc0 := 706) (pc' := 710) rfl (hb hby at_706) (by decide) (by decide) ?_
       refine XS.istore X113.here hx rfl (hb hby at_710) rfl (l' := #[vI p1, vI p2, vI p3, vI p4, vR a4, vI (Int32.ofNat i), vI m6, vI (((p1.toUInt32 >>> ((2 : Int32) &&& 31).toUInt32).toInt32) &&& (3 : Int32)), vI c8, vI a9, vI a10, vI a11, vI a12, vI (p1 &&& (3 : Int32)), vI s14, vR a15, vI 1, .unset]) rfl ?_
       show SS p e below T113 m 712 #[vI p1, vI p2, vI p3, vI p4, vR a4, vI (Int32.ofNat i), vI m6, vI (((p1.toUInt32 >>> ((2 : Int32) &&& 31).toUInt32).toInt32) &&& (3 : Int32)), vI c8, vI a9, vI a10, vI a11, vI a12, vI (p1 &&& (3 : Int32)), vI s14, vR a15, vI 1, .unset] [] _
       rw [show rsF a10 a11 a12 = 1 by rw [rsF, if_neg hc101, if_neg hc104, if_neg hc106, if_neg hc109, if_neg hc111, if_neg hc114]] at kt
       exact kt
theorem tnX {p : Program} {l : Launch} {e : Env} {s : State} {m : MethodId} {args : Array Value} {below : List Frame} {meth : Method} {c : Code} {T0 : State} {locs : List Loc} {Z : State} {a0 : Array Value} {h0 : Heap} {n0 : Nat} (p1 p2 p3 p4 m6 c8 a9 a10 a11 a12 s14 s16 : Int32) (a4 a15 : Addr) (i : Nat)
  (X0 : Stand p l e room_1 s m args below meth c T0 locs 5 300) (hx : p.tables.exec = Jvm.exec) (hZ : Z.Warmed39 s.vm) (hw : HW a0 Z) (hby : c.code = code) (hml : c.maxLocals = 18) (hown : s.vm.findClass "com/example/brisk_hub/briskhub/http/FormIsFormPinLaw" = some m.cls) (e0 : T0.heap = h0) (O0 : Old Z n0 h0) (N0 : Fr n0 locs) :
  ∃ (T' : State) (h' : Heap) (L' : List Loc), Stand p l e room_1 s m args below meth c T' L' 5 300 ∧ T'.heap = h' ∧ Fr n0 L' ∧ h' = h0 ∧ ∀ target, SS p e below T' m 737 #[vI p1, vI p2, vI p3, vI p4, vR a4, vI (Int32.ofNat i), vI m6, vI (((p1.toUInt32 >>> ((2 : Int32) &&& 31).toUInt32).toInt32) &&& (3 : Int32)), vI c8, vI a9, vI a10, vI a11, vI a12, vI (p1 &&& (3 : Int32)), vI s14, vR a15, vI s16, vI (exF a9 s14 s16)] [] target → SS p e below T0 m 712 #[vI p1, vI p2, vI p3, vI p4, vR a4, vI (Int32.ofNat i), vI m6, vI (((p1.toUInt32 >>> ((2 : Int32) &&& 31).toUInt32).toInt32) &&& (3 : Int32)), vI c8, vI a9, vI a10, vI a11, vI a12, vI (p1 &&& (3 : Int32)), vI s14, vR a15, vI s16, .unset] [] target := by
 have hn0 : n0 ≤ h0.size := O0.1 ▸ O0.2.1
 have pre0 : ∀ t, SS p e below T0 m 712 #[vI p1, vI p2, vI p3, vI p4, vR a4, vI (Int32.ofNat i), vI m6, vI (((p1.toUInt32 >>> ((2 : Int32) &&& 31).toUInt32).toInt32) &&& (3 : Int32)), vI c8, vI a9, vI a10, vI a11, vI a12, vI (p1 &&& (3 : Int32)), vI s14, vR a15, vI s16, .unset] [] t → SS p e below T0 m 712 #[vI p1, vI p2, vI p3, vI p4, vR a4, vI (Int32.ofNat i), vI m6, vI (((p1.toUInt32 >>> ((2 : Int32) &&& 31).toUInt32).toInt32) &&& (3 : Int32)), vI c8, vI a9, vI a10, vI a11, vI a12, vI (p1 &&& (3 : Int32)), vI s14, vR a15, vI s16, .unset] [] t := fun t k => k
 obtain ⟨_, _, ⟨T101, L101, k101, n101⟩, -, X101, ⟨Lc101, hQ101, l101, y101, z101⟩, st101⟩ := Jvm.LawKit.callS X0 hx (y := mN34) hown (mvT hZ (tw hw 143 rfl)) (mvT hZ (tw hw 144 rfl)) (mvT hZ (tw hw 145 rfl)) (mvT hZ (tw hw 146 rfl)) (by decide) (backOf (W := 0) (rmWs l Z a0 hw [] a9  h0 n0 O0 ) hZ (tw hw 146 rfl) (tw hw 145 rfl) (by decide) (by decide)) (g := (mkF m 714 #[vI p1, vI p2, vI p3, vI p4, vR a4, vI (Int32.ofNat i), vI m6, vI (((p1.toUInt32 >>> ((2 : Int32) &&& 31).toUInt32).toInt32) &&& (3 : Int32)), vI c8, vI a9, vI a10, vI a11, vI a12, vI (p1 &&& (3 : Int32)), vI s14, vR a15, vI s16, .unset] [(.int a9)])) rfl (by rw [hml]; rfl) (argsL := [(.int a9)]) (rest := []) (lenOf pd_24 rfl) rfl (wL _) (hb hby at_714) (fun _ _ => ⟨rfl, e0, (by decide : 5 + 0 ≤ _), (by decide : 300 + 0 ≤ _)⟩)
 dsimp only [Pt.U, Pt.locs, Pt.cells, Pt.slots] at X101 l101 y101 z101 st101 hQ101
 rw [l101] at X101
 subst y101 z101
 obtain ⟨rfl, N101q, H101⟩ := hQ101
 have N101 := Fr.app N0 N101q
 have pre103 : ∀ t, SS p e below T101 m 717 #[vI p1, vI p2, vI p3, vI p4, vR a4, vI (Int32.ofNat i), vI m6, vI (((p1.toUInt32 >>> ((2 : Int32) &&& 31).toUInt32).toInt32) &&& (3 : Int32)), vI c8, vI a9, vI a10, vI a11, vI a12, vI (p1 &&& (3 : Int32)), vI s14, vR a15, vI s16, .unset] [(.int (wsC a9))] t → SS p e below T0 m 712 #[vI p1, vI p2, vI p3, vI p4, vR a4, vI (Int32.ofNat i), vI m6, vI (((p1.toUInt32 >>> ((2 : Int32) &&& 31).toUInt32).toInt32) &&& (3 : Int32)), vI c8, vI a9, vI a10, vI a11, vI a12, vI (p1 &&& (3 : Int32)), vI s14, vR a15, vI s16, .unset] [] t := by
  intro t kt
  refine pre0 _ ?_
  show SS p e below T0 m 712 #[vI p1, vI p2, vI p3, vI p4, vR a4, vI (Int32.ofNat i), vI m6, vI (((p1.toUInt32 >>> ((2 : Int32) &&& 31).toUInt32).toInt32) &&& (3 : Int32)), vI c8, vI a9, vI a10, vI a11, vI a12, vI (p1 &&& (3 : Int32)), vI s14, vR a15, vI s16, .unset] [] _
  refine XS.iload X0.here hx rfl (hb hby at_712) rfl ?_
  show SS p e below T0 m 714 #[vI p1, vI p2, vI p3, vI p4, vR a4, vI (Int32.ofNat i), vI m6, vI (((p1.toUInt32 >>> ((2 : Int32) &&& 31).toUInt32).toInt32) &&& (3 : Int32)), vI c8, vI a9, vI a10, vI a11, vI a12, vI (p1 &&& (3 : Int32)), vI s14, vR a15, vI s16, .unset] [(.int a9)] _
  refine st101 _ ?_
  exact kt
 by_cases hc102 : (wsC a9) = (0 : Int32)
 ·skip
  refine ⟨T101, h0, _, X101, H101, N101, rfl, fun target kt => pre103 _ ?_⟩
  show SS p e below T101 m 717 #[vI p1, vI p2, vI p3, vI p4, vR a4, vI (Int32.ofNat i), vI m6, vI (((p1.toUInt32 >>> ((2 : Int32) &&& 31).toUInt32).toInt32) &&& (3 : Int32)), vI c8, vI a9, vI a10, vI a11, vI a12, vI (p1 &&& (3 : Int32)), vI s14, vR a15, vI s16, .unset] [(.int (wsC a9))] _
  refine XS.ifYes X101.here hx rfl (pc0 := 717) (pc' := 734) rfl (hb hby at_717) rfl ((if0 _ _).trans (teq hc102).1) (by decide) (by decide) ?_
  refine XS.iconst X101.here hx rfl (hb hby at_734) ?_
  refine XS.istore X101.here hx rfl (hb hby at_735) rfl (l' := #[vI p1, vI p2, vI p3, vI p4, vR a4, vI (Int32.ofNat i), vI m6, vI (((p1.toUInt32 >>> ((2 : Int32) &&& 31).toUInt32).toInt32) &&& (3 : Int32)), vI c8, vI a9, vI a10, vI a11, vI a12, vI (p1 &&& (3 : Int32)), vI s14, vR a15, vI s16, vI 0]) rfl ?_
  show SS p e below T101 m 737 #[vI p1, vI p2, vI p3, vI p4, vR a4, vI (Int32.ofNat i), vI m6, vI (((p1.toUInt32 >>> ((2 : Int32) &&& 31).toUInt32).toInt32) &&& (3 : Int32)), vI c8, vI a9, vI a10, vI a11, vI a12, vI (p1 &&& (3 : Int32)), vI s14, vR a15, vI s16, vI 0] [] _
  rw [show exF a9 s14 s16 = 0 by rw [exF, if_pos hc102]] at kt
  exact kt
 ·skip
  have pre105 : ∀ t, SS p e below T101 m 722 #[vI p1, vI p2, vI p3, vI p4, vR a4, vI (Int32.ofNat i), vI m6, vI (((p1.toUInt32 >>> ((2 : Int32) &&& 31).toUInt32).toInt32) &&& (3 : Int32)), vI c8, vI a9, vI a10, vI a11, vI a12, vI (p1 &&& (3 : Int32)), vI s14, vR a15, vI s16, .unset] [(.int s14)] t → SS p e below T0 m 712 #[vI p1, vI p2, vI p3, vI p4, vR a4, vI (Int32.ofNat i), vI m6, vI (((p1.toUInt32 >>> ((2 : Int32) &&& 31).toUInt32).toInt32) &&& (3 : Int32)), vI c8, vI a9, vI a10, vI a11, vI a12, vI (p1 &&& (3 : Int32)), vI s14, vR a15, vI s16, .unset] [] t := by
   intro t kt
   refine pre103 _ ?_
   show SS p e below T101 m 717 #[vI p1, vI p2, vI p3, vI p4, vR a4, vI (Int32.ofNat i), vI m6, vI (((p1.toUInt32 >>> ((2 : Int32) &&& 31).toUInt32).toInt32) &&& (3 : Int32)), vI c8, vI a9, vI a10, vI a11, vI a12, vI (p1 &&& (3 : Int32)), vI s14, vR a15, vI s16, .unset] [(.int (wsC a9))] _
   refine XS.ifNo X101.here hx rfl (hb hby at_717) rfl ((if0 _ _).trans (feq hc102).1) ?_
   refine XS.iload X101.here hx rfl (hb hby at_720) rfl ?_
   exact kt
  by_cases hc104 : s14 = (0 : Int32)
  ·skip
   refine ⟨T101, h0, _, X101, H101, N101, rfl, fun target kt => pre105 _ ?_⟩
   show SS p e below T101 m 722 #[vI p1, vI p2, vI p3, vI p4, vR a4, vI (Int32.ofNat i), vI m6, vI (((p1.toUInt32 >>> ((2 : Int32) &&& 31).toUInt32).toInt32) &&& (3 : Int32)), vI c8, vI a9, vI a10, vI a11, vI a12, vI (p1 &&& (3 : Int32)), vI s14, vR a15, vI s16, .unset] [(.int s14)] _
   refine XS.ifYes X101.here hx rfl (pc0 := 722) (pc' := 734) rfl (hb hby at_722) rfl ((if0 _ _).trans (teq hc104).1) (by decide) (by decide) ?_
   refine XS.iconst X101.here hx rfl (hb hby at_734) ?_
   refine XS.istore X101.here hx rfl (hb hby at_735) rfl (l' := #[vI p1, vI p2, vI p3, vI p4, vR a4, vI (Int32.ofNat i), vI m6, vI (((p1.toUInt32 >>> ((2 : Int32) &&& 31).toUInt32).toInt32) &&& (3 : Int32)), vI c8, vI a9, vI a10, vI a11, vI a12, vI (p1 &&& (3 : Int32)), vI s14, vR a15, vI s16, vI 0]) rfl ?_
   show SS p e below T101 m 737 #[vI p1, vI p2, vI p3, vI p4, vR a4, vI (Int32.ofNat i), vI m6, vI (((p1.toUInt32 >>> ((2 : Int32) &&& 31).toUInt32).toInt32) &&& (3 : Int32)), vI c8, vI a9, vI a10, vI a11, vI a12, vI (p1 &&& (3 : Int32)), vI s14, vR a15, vI s16, vI 0] [] _
   rw [show exF a9 s14 s16 = 0 by rw [exF, if_neg hc102, if_pos hc104]] at kt
   exact kt
  ·skip
   have pre107 : ∀ t, SS p e below T101 m 727 #[vI p1, vI p2, vI p3, vI p4, vR a4, vI (Int32.ofNat i), vI m6, vI (((p1.toUInt32 >>> ((2 : Int32) &&& 31).toUInt32).toInt32) &&& (3 : Int32)), vI c8, vI a9, vI a10, vI a11, vI a12, vI (p1 &&& (3 : Int32)), vI s14, vR a15, vI s16, .unset] [(.int s16)] t → SS p e below T0 m 712 #[vI p1, vI p2, vI p3, vI p4, vR a4, vI (Int32.ofNat i), vI m6, vI (((p1.toUInt32 >>> ((2 : Int32) &&& 31).toUInt32).toInt32) &&& (3 : Int32)), vI c8, vI a9, vI a10, vI a11, vI a12, vI (p1 &&& (3 : Int32)), vI s14, vR a15, vI s16, .unset] [] t := by
    intro t kt
    refine pre105 _ ?_
    show SS p e below T101 m 722 #[vI p1, vI p2, vI p3, vI p4, vR a4, vI (Int32.ofNat i), vI m6, vI (((p1.toUInt32 >>> ((2 : Int32) &&& 31).toUInt32).toInt32) &&& (3 : Int32)), vI c8, vI a9, vI a10, vI a11, vI a12, vI (p1 &&& (3 : Int32)), vI s14, vR a15, vI s16, .unset] [(.int s14)] _
    refine XS.ifNo X101.here hx rfl (hb hby at_722) rfl ((if0 _ _).trans (feq hc104).1) ?_
    refine XS.iload X101.here hx rfl (hb hby at_725) rfl ?_
    exact kt
   by_cases hc106 : s16 = (0 : Int32)
   ·skip
    refine ⟨T101, h0, _, X101, H101, N101, rfl, fun target kt => pre107 _ ?_⟩
    show SS p e below T101 m 727 #[vI p1, vI p2, vI p3, vI p4, vR a4, vI (Int32.ofNat i), vI m6, vI (((p1.toUInt32 >>> ((2 : Int32) &&& 31).toUInt32).toInt32) &&& (3 : Int32)), vI c8, vI a9, vI a10, vI a11, vI a12, vI (p1 &&& (3 : Int32)), vI s14, vR a15, vI s16, .unset] [(.int s16)] _
    refine XS.ifYes X101.here hx rfl (pc0 := 727) (pc' := 734) rfl (hb hby at_727) rfl ((if0 _ _).trans (teq hc106).1) (by decide) (by decide) ?_
    refine XS.iconst X101.here hx rfl (hb hby at_734) ?_
    refine XS.istore X101.here hx rfl (hb hby at_735) rfl (l' := #[vI p1, vI p2, vI p3, vI p4, vR a4, vI (Int32.ofNat i), vI m6, vI (((p1.toUInt32 >>> ((2 : Int32) &&& 31).toUInt32).toInt32) &&& (3 : Int32)), vI c8, vI a9, vI a10, vI a11, vI a12, vI (p1 &&& (3 : Int32)), vI s14, vR a15, vI s16, vI 0]) rfl ?_
    show SS p e below T101 m 737 #[vI p1, vI p2, vI p3, vI p4, vR a4, vI (Int32.ofNat i), vI m6, vI (((p1.toUInt32 >>> ((2 : Int32) &&& 31).toUInt32).toInt32) &&& (3 : Int32)), vI c8, vI a9, vI a10, vI a11, vI a12, vI (p1 &&& (3 : Int32)), vI s14, vR a15, vI s16, vI 0] [] _
    rw [show exF a9 s14 s16 = 0 by rw [exF, if_neg hc102, if_neg hc104, if_pos hc106]] at kt
    exact kt
   ·skip
    refine ⟨T101, h0, _, X101, H101, N101, rfl, fun target kt => pre107 _ ?_⟩
    show SS p e below T101 m 727 #[vI p1, vI p2, vI p3, vI p4, vR a4, vI (Int32.ofNat i), vI m6, vI (((p1.toUInt32 >>> ((2 : Int32) &&& 31).toUInt32).toInt32) &&& (3 : Int32)), vI c8, vI a9, vI a10, vI a11, vI a12, vI (p1 &&& (3 : Int32)), vI s14, vR a15, vI s16, .unset] [(.int s16)] _
    refine XS.ifNo X101.here hx rfl (hb hby at_727) rfl ((if0 _ _).trans (feq hc106).1) ?_
    refine XS.iconst X101.here hx rfl (hb hby at_730) ?_
    refine XS.goto X101.here hx rfl (pc0 := 731) (pc' := 735) rfl (hb hby at_731) (by decide) (by decide) ?_
    refine XS.istore X101.here hx rfl (hb hby at_735) rfl (l' := #[vI p1, vI p2, vI p3, vI p4, vR a4, vI (Int32.ofNat i), vI m6, vI (((p1.toUInt32 >>> ((2 : Int32) &&& 31).toUInt32).toInt32) &&& (3 : Int32)), vI c8, vI a9, vI a10, vI a11, vI a12, vI (p1 &&& (3 : Int32)), vI s14, vR a15, vI s16, vI 1]) rfl ?_
    show SS p e below T101 m 737 #[vI p1, vI p2, vI p3, vI p4, vR a4, vI (Int32.ofNat i), vI m6, vI (((p1.toUInt32 >>> ((2 : Int32) &&& 31).toUInt32).toInt32) &&& (3 : Int32)), vI c8, vI a9, vI a10, vI a11, vI a12, vI (p1 &&& (3 : Int32)), vI s14, vR a15, vI s16, vI 1] [] _
    rw [show exF a9 s14 s16 = 1 by rw [exF, if_neg hc102, if_neg hc104, if_neg hc106]] at kt
    exact kt
theorem pd_0 : parseMethodDescriptor "(I)C" = some ⟨[.int], some .char⟩ := by decide +kernel
theorem pd_5 : parseMethodDescriptor "([C)V" = some ⟨[(.array .char)], none⟩ := by decide +kernel
theorem ef_rm0 (m : MethodId) (y0 : Int32) (y1 : Int32) (y2 : Int32) (y3 : Int32) : entryFrame m #[(.int y0), (.int y1), (.int y2), (.int y3)] maxLocals = (mkF m 0 #[vI y0, vI y1, vI y2, vI y3, .unset, .unset, .unset, .unset, .unset, .unset, .unset, .unset, .unset, .unset, .unset, .unset, .unset, .unset] []) := by first | (simp [entryFrame, mkF, argsToLocals, Value.category, maxLocals]; done) | rfl
def Q_rm0 (Z : State) (p1 : Int32) (p2 : Int32) (p3 : Int32) (p4 : Int32) (cs0 : Int32) (fm : Value) (cin ta : Addr) (kA : ClassId) (h0 : Heap) (n0 : Nat) (v : Option Value) (h : Heap) (L : List Loc) : Prop := v = some (.int 1) ∧ Fr n0 L
theorem rm0 (l : Launch) (Z : State) (a0 : Array Value) (hw : HW a0 Z) (ws : List Jvm.Cond) (p1 : Int32) (p2 : Int32) (p3 : Int32) (p4 : Int32) (cs0 : Int32) (fm : Value) (cin ta : Addr) (kA : ClassId) (h0 : Heap) (n0 : Nat) (O0 : Old Z n0 h0) (S_CS : SCS Z cs0) (c_CS : ¬ (cs0 = (0 : Int32))) (S_FM : SFM Z fm) (r_FM : fm.isRef = true) (S_IN : Sta Z Z.heap "java/lang/CharacterDataLatin1" "instance" "Ljava/lang/CharacterDataLatin1;" (.ref cin)) (E_IN : Exa Z Z.heap cin "java/lang/CharacterDataLatin1") (S_A : Sta Z Z.heap "java/lang/CharacterDataLatin1" "A" "[I" (.ref ta)) (V_A : Arv Z Z.heap ta kA .int (256 : Int32) (tabA.map Value.int) (.int 0)) :
  MetFree l x (head1 (Jvm.Cond.code x code maxLocals ret :: ws) room_1) (fun a U => a = #[(.int p1), (.int p2), (.int p3), (.int p4)] ∧ Z.Warmed39 U.vm ∧ U.heap = h0 ∧ CHv Z EL1 U.vm h0) (fun _ _ _ _ _ => True) (fun _ U o U' => ∃ v L, o = .returned v ∧ Q_rm0 Z p1 p2 p3 p4 cs0 fm cin ta kA h0 n0 v U'.heap L ∧ ReturnedEndW U o U' L room_1.cells room_1.slots) := by
 refine MetFree.of_bodySF (plainFor_of_name pn_0) hisR ?_
 intro p e s m args below meth c s₁ Bd hml0 hP hK
 obtain ⟨rfl, hZ, hh, hCH⟩ := hP
 have hx := Bd.exec
 have hby := Bd.bytes
 have hml : c.maxLocals = 18 := hml0
 have hown : s.vm.findClass "com/example/brisk_hub/briskhub/http/FormIsFormPinLaw" = some m.cls := findClass_of_methodNamed Bd.named
 have X0 : Stand p l e room_1 s m #[(.int p1), (.int p2), (.int p3), (.int p4)] below meth c s₁ [] 0 0 := Stand.of_body Bd
 have e0 : s₁.heap = h0 := by rw [← hh, Bd.state]; rfl
 have N0 := Fr.nil n0
 have hn0 : n0 ≤ h0.size := O0.1 ▸ O0.2.1
 have CR0 := CHr.refl hCH
 have hS0 : s.Since s.vm h0.size := (State.WarmedH.refl s).since _
 have pre0 : ∀ t, SS p e below s₁ m 0 #[vI p1, vI p2, vI p3, vI p4, .unset, .unset, .unset, .unset, .unset, .unset, .unset, .unset, .unset, .unset, .unset, .unset, .unset, .unset] [] t → SE p e below s₁ m #[(.int p1), (.int p2), (.int p3), (.int p4)] maxLocals t := fun t k => castTop (ef_rm0 m p1 p2 p3 p4) k
 have wStr : ∀ d ∈ Bundle.stringAtoms, d.before a0 Z = true := fun d hd => hw d ((by decide +kernel : ∀ d ∈ Bundle.stringAtoms, d ∈ tables_1) d hd)
 have hws : ∀ d ∈ StrChars.Road.words, d.before a0 Z = true := fun d hd => hw d ((by decide +kernel : ∀ d ∈ StrChars.Road.words, d ∈ tables_1) d hd)
 have hEW : EW Z a0 EL1 := EW.cons (tw hw 126 rfl) (by decide) (EW.cons (tw hw 0 rfl) (by decide) (EW.cons (tw hw 184 rfl) (by decide) EW.nil))
 obtain ⟨b101, T101, h101, k101, t101, kb101, X101, e101, E101, hS101, hk101, hZ101, hown101, Ea101, Fc101, Fv101, Av101, la101, lb101, CR101, Li101, nq101, st101⟩ := ldcCH (s := s) (vm0 := s.vm) X0 hx hZ hown (tw hw 0 rfl) wStr e0 hS0 (by omega) hEW (by simp [EL1]) CR0.1 (vs := (([97, 112, 112, 108, 105, 99, 97, 116, 105, 111, 110, 47, 120, 45, 119, 119, 119, 45, 102, 111, 114, 109, 45, 117, 114, 108, 101, 110, 99, 111, 100, 101, 100] : List Int32).map Value.int)) (z := (Int32.ofNat ([97, 112, 112, 108, 105, 99, 97, 116, 105, 111, 110, 47, 120, 45, 119, 119, 119, 45, 102, 111, 114, 109, 45, 117, 114, 108, 101, 110, 99, 111, 100, 101, 100] : List Int32).length)) ⟨by decide, by decide⟩ (by decide) (by decide) (g := (mkF m 0 #[vI p1, vI p2, vI p3, vI p4, .unset, .unset, .unset, .unset, .unset, .unset, .unset, .unset, .unset, .unset, .unset, .unset, .unset, .unset] [])) rfl (hb hby at_0) (n := 132) (by decide) (by decide) (by decide) (by decide)
 have lta101 : @LT.lt Nat _ b101 h101.size := la101
 have ltb101 : @LT.lt Nat _ t101 h101.size := lb101
 have K101 : Keep h0 h101 [] := (Keep.refl _ _).ext E101
 have cR1_K101 := CR0.trans CR101
 have sz1_K101 := K101.1
 have pre102 : ∀ t, SS p e below T101 m 13 #[vI p1, vI p2, vI p3, vI p4, vR b101, vI ((p2 &&& (2147483647 : Int32)) % (33 : Int32)), .unset, .unset, .unset, .unset, .unset, .unset, .unset, .unset, .unset, .unset, .unset, .unset] [] t → SE p e below s₁ m #[(.int p1), (.int p2), (.int p3), (.int p4)] maxLocals t := by
  intro t kt
  refine pre0 _ ?_
  show SS p e below s₁ m 0 #[vI p1, vI p2, vI p3, vI p4, .unset, .unset, .unset, .unset, .unset, .unset, .unset, .unset, .unset, .unset, .unset, .unset, .unset, .unset] [] _
  refine st101 _ ?_
  refine XS.astore X101.here hx rfl (hb hby at_2) rfl rfl (l' := #[vI p1, vI p2, vI p3, vI p4, vR b101, .unset, .unset, .unset, .unset, .unset, .unset, .unset, .unset, .unset, .unset, .unset, .unset, .unset]) rfl ?_
  refine XS.iloadN X101.here hx rfl (hb hby at_4) rfl ?_
  show SS p e below T101 m 5 #[vI p1, vI p2, vI p3, vI p4, vR b101, .unset, .unset, .unset, .unset, .unset, .unset, .unset, .unset, .unset, .unset, .unset, .unset, .unset] [(.int p2)] _
  refine X101.ldcInt hx hown101 (mvT hZ101 (tw hw 8 rfl)) (g := (mkF m 5 #[vI p1, vI p2, vI p3, vI p4, vR b101, .unset, .unset, .unset, .unset, .unset, .unset, .unset, .unset, .unset, .unset, .unset, .unset, .unset] [(.int p2)])) rfl (hb hby at_5) _ ?_
  refine XS.iand X101.here hx rfl (hb hby at_7) rfl ?_
  refine XS.bipush X101.here hx rfl (hb hby at_8) ?_
  show SS p e below T101 m 10 #[vI p1, vI p2, vI p3, vI p4, vR b101, .unset, .unset, .unset, .unset, .unset, .unset, .unset, .unset, .unset, .unset, .unset, .unset, .unset] [(.int 33), (.int (p2 &&& (2147483647 : Int32)))] _
  refine iremM (g := (mkF m 10 #[vI p1, vI p2, vI p3, vI p4, vR b101, .unset, .unset, .unset, .unset, .unset, .unset, .unset, .unset, .unset, .unset, .unset, .unset, .unset] [(.int 33), (.int (p2 &&& (2147483647 : Int32)))])) X101 hx rfl (hb hby at_10) rfl (by decide) ?_
  refine XS.istore X101.here hx rfl (hb hby at_11) rfl (l' := #[vI p1, vI p2, vI p3, vI p4, vR b101, vI ((p2 &&& (2147483647 : Int32)) % (33 : Int32)), .unset, .unset, .unset, .unset, .unset, .unset, .unset, .unset, .unset, .unset, .unset, .unset]) rfl ?_
  exact kt
 obtain ⟨i, hi, ei⟩ := own_sel33 p2
 have hr103 : ((p2 &&& (2147483647 : Int32)) % (33 : Int32)) = (Int32.ofNat i) := ei
 have O105 : Old Z n0 h101 := O0.keep K101 all0
 obtain ⟨cq104, kq104, q104a, q104b, q104c⟩ := isOf hZ101 e101 Ea101
 obtain ⟨_, _, ⟨T104, L104, k104, n104⟩, -, X104, ⟨Lc104, hQ104, l104, y104, z104⟩, st104⟩ := X101.virtualBack hx (y := mN9) (z := mN9) hown101 (mvT hZ101 (tw hw 9 rfl)) (mvT hZ101 (tw hw 10 rfl)) (notFace_of_selects (args := #[]) (mvT hZ101 (tw hw 12 rfl))) (mvT hZ101 (tw hw 12 rfl)) (mvT hZ101 (tw hw 11 rfl)) (by decide) (backOf (W := 0) (rmStc l Z a0 hw [] b101 media cs0 t101 kb101 i fm h101 n0 O105 S_CS c_CS Ea101 Fv101 Fc101 Av101 (by rw [own_medlen]; decide) (by rw [own_medlen]; exact hi) S_FM r_FM) hZ101 (tw hw 13 rfl) (tw hw 1 rfl) (by decide) (by decide)) q104a q104c (g := (mkF m 17 #[vI p1, vI p2, vI p3, vI p4, vR b101, vI (Int32.ofNat i), .unset, .unset, .unset, .unset, .unset, .unset, .unset, .unset, .unset, .unset, .unset, .unset] [(.int (Int32.ofNat i)), (.ref b101)])) rfl (by rw [hml]; rfl) (Steps.refl _) (argsL := [(.int (Int32.ofNat i))]) (rest := []) (lenOf pd_0 rfl) rfl (wL _) (hb hby at_17) (fun _ _ => ⟨rfl, e101, (by decide : 2 + 0 ≤ _), (by decide : 136 + 0 ≤ _)⟩)
 dsimp only [Pt.U, Pt.locs, Pt.cells, Pt.slots] at X104 l104 y104 z104 st104 hQ104
 rw [l104] at X104
 subst y104 z104
 obtain ⟨rfl, N104q, H104⟩ := hQ104
 have N104 := Fr.app N0 N104q
 have hr106 : ((media.getD i 0) &&& (255 : Int32)) = (media.getD i 0) := own_med255 i hi
 have pre107 : ∀ t, SS p e below T104 m 20 #[vI p1, vI p2, vI p3, vI p4, vR b101, vI (Int32.ofNat i), .unset, .unset, .unset, .unset, .unset, .unset, .unset, .unset, .unset, .unset, .unset, .unset] [(.int (media.getD i 0))] t → SE p e below s₁ m #[(.int p1), (.int p2), (.int p3), (.int p4)] maxLocals t := by
  intro t kt
  refine pre102 _ ?_
  show SS p e below T101 m 13 #[vI p1, vI p2, vI p3, vI p4, vR b101, vI ((p2 &&& (2147483647 : Int32)) % (33 : Int32)), .unset, .unset, .unset, .unset, .unset, .unset, .unset, .unset, .unset, .unset, .unset, .unset] [] _
  rw [hr103]
  refine XS.aload X101.here hx rfl (hb hby at_13) rfl rfl ?_
  refine XS.iload X101.here hx rfl (hb hby at_15) rfl ?_
  show SS p e below T101 m 17 #[vI p1, vI p2, vI p3, vI p4, vR b101, vI (Int32.ofNat i), .unset, .unset, .unset, .unset, .unset, .unset, .unset, .unset, .unset, .unset, .unset, .unset] [(.int (Int32.ofNat i)), (.ref b101)] _
  refine st104.trans ?_
  show SS p e below T104 m 20 #[vI p1, vI p2, vI p3, vI p4, vR b101, vI (Int32.ofNat i), .unset, .unset, .unset, .unset, .unset, .unset, .unset, .unset, .unset, .unset, .unset, .unset] [(.int ((media.getD i 0) &&& (255 : Int32)))] _
  rw [hr106]
  exact kt
 obtain ⟨m6, em6⟩ : ∃ z, media.getD i 0 = z := ⟨_, rfl⟩
 have rm6 : ¬ m6 < 0 ∧ ¬ (255 : Int32) < m6 := em6 ▸ own_medr i hi
 have hr108 : (media.getD i 0) = m6 := em6
 have pre109 : ∀ t, SS p e below T104 m 22 #[vI p1, vI p2, vI p3, vI p4, vR b101, vI (Int32.ofNat i), vI m6, .unset, .unset, .unset, .unset, .unset, .unset, .unset, .unset, .unset, .unset, .unset] [] t → SE p e below s₁ m #[(.int p1), (.int p2), (.int p3), (.int p4)] maxLocals t := by
  intro t kt
  refine pre107 _ ?_
  show SS p e below T104 m 20 #[vI p1, vI p2, vI p3, vI p4, vR b101, vI (Int32.ofNat i), .unset, .unset, .unset, .unset, .unset, .unset, .unset, .unset, .unset, .unset, .unset, .unset] [(.int (media.getD i 0))] _
  rw [hr108]
  refine XS.istore X104.here hx rfl (hb hby at_20) rfl (l' := #[vI p1, vI p2, vI p3, vI p4, vR b101, vI (Int32.ofNat i), vI m6, .unset, .unset, .unset, .unset, .unset, .unset, .unset, .unset, .unset, .unset, .unset]) rfl ?_
  exact kt
 obtain ⟨T110, h110, L110, X110, e110, N110, H110, st110⟩ := tnC p1 p2 p3 p4 m6 b101 i (X104.more (by decide) (by decide)) hx hZ101 hw hby hml hown101 H104 O105 N104 rm6
 have f110 := e110.trans H110
 have pre111 : ∀ t, SS p e below T110 m 65 #[vI p1, vI p2, vI p3, vI p4, vR b101, vI (Int32.ofNat i), vI m6, vI (((p1.toUInt32 >>> ((2 : Int32) &&& 31).toUInt32).toInt32) &&& (3 : Int32)), vI (cF p1 p3 m6), .unset, .unset, .unset, .unset, .unset, .unset, .unset, .unset, .unset] [] t → SE p e below s₁ m #[(.int p1), (.int p2), (.int p3), (.int p4)] maxLocals t := by
  intro t kt
  refine pre109 _ ?_
  refine st110 _ ?_
  exact kt
 obtain ⟨c8, ec8, rc8⟩ : ∃ z, cF p1 p3 m6 = z ∧ (¬ z < 0 ∧ ¬ (255 : Int32) < z) := ⟨_, rfl, own_cFr rm6⟩
 have hr112 : (cF p1 p3 m6) = c8 := ec8
 have pre113 : ∀ t, SS p e below T110 m 106 #[vI p1, vI p2, vI p3, vI p4, vR b101, vI (Int32.ofNat i), vI m6, vI (((p1.toUInt32 >>> ((2 : Int32) &&& 31).toUInt32).toInt32) &&& (3 : Int32)), vI c8, vI ((p4 &&& (255 : Int32)).toUInt32.toUInt16.toUInt32.toInt32), vI ((((p4.toUInt32 >>> ((8 : Int32) &&& 31).toUInt32).toInt32) &&& (255 : Int32)).toUInt32.toUInt16.toUInt32.toInt32), vI ((((p4.toUInt32 >>> ((16 : Int32) &&& 31).toUInt32).toInt32) &&& (255 : Int32)).toUInt32.toUInt16.toUInt32.toInt32), vI ((((p4.toUInt32 >>> ((24 : Int32) &&& 31).toUInt32).toInt32) &&& (255 : Int32)).toUInt32.toUInt16.toUInt32.toInt32), .unset, .unset, .unset, .unset, .unset] [] t → SE p e below s₁ m #[(.int p1), (.int p2), (.int p3), (.int p4)] maxLocals t := by
  intro t kt
  refine pre111 _ ?_
  show SS p e below T110 m 65 #[vI p1, vI p2, vI p3, vI p4, vR b101, vI (Int32.ofNat i), vI m6, vI (((p1.toUInt32 >>> ((2 : Int32) &&& 31).toUInt32).toInt32) &&& (3 : Int32)), vI (cF p1 p3 m6), .unset, .unset, .unset, .unset, .unset, .unset, .unset, .unset, .unset] [] _
  rw [hr112]
  refine XS.iloadN X110.here hx rfl (hb hby at_65) rfl ?_
  refine XS.sipush X110.here hx rfl (hb hby at_66) ?_
  refine XS.iand X110.here hx rfl (hb hby at_69) rfl ?_
  refine XS.i2c X110.here hx rfl (hb hby at_70) rfl ?_
  refine XS.istore X110.here hx rfl (hb hby at_71) rfl (l' := #[vI p1, vI p2, vI p3, vI p4, vR b101, vI (Int32.ofNat i), vI m6, vI (((p1.toUInt32 >>> ((2 : Int32) &&& 31).toUInt32).toInt32) &&& (3 : Int32)), vI c8, vI ((p4 &&& (255 : Int32)).toUInt32.toUInt16.toUInt32.toInt32), .unset, .unset, .unset, .unset, .unset, .unset, .unset, .unset]) rfl ?_
  refine XS.iloadN X110.here hx rfl (hb hby at_73) rfl ?_
  refine XS.bipush X110.here hx rfl (hb hby at_74) ?_
  show SS p e below T110 m 76 #[vI p1, vI p2, vI p3, vI p4, vR b101, vI (Int32.ofNat i), vI m6, vI (((p1.toUInt32 >>> ((2 : Int32) &&& 31).toUInt32).toInt32) &&& (3 : Int32)), vI c8, vI ((p4 &&& (255 : Int32)).toUInt32.toUInt16.toUInt32.toInt32), .unset, .unset, .unset, .unset, .unset, .unset, .unset, .unset] [(.int 8), (.int p4)] _
  refine XS.iushr X110.here hx rfl (hb hby at_76) rfl ?_
  refine XS.sipush X110.here hx rfl (hb hby at_77) ?_
  refine XS.iand X110.here hx rfl (hb hby at_80) rfl ?_
  refine XS.i2c X110.here hx rfl (hb hby at_81) rfl ?_
  refine XS.istore X110.here hx rfl (hb hby at_82) rfl (l' := #[vI p1, vI p2, vI p3, vI p4, vR b101, vI (Int32.ofNat i), vI m6, vI (((p1.toUInt32 >>> ((2 : Int32) &&& 31).toUInt32).toInt32) &&& (3 : Int32)), vI c8, vI ((p4 &&& (255 : Int32)).toUInt32.toUInt16.toUInt32.toInt32), vI ((((p4.toUInt32 >>> ((8 : Int32) &&& 31).toUInt32).toInt32) &&& (255 : Int32)).toUInt32.toUInt16.toUInt32.toInt32), .unset, .unset, .unset, .unset, .unset, .unset, .unset]) rfl ?_
  refine XS.iloadN X110.here hx rfl (hb hby at_84) rfl ?_
  refine XS.bipush X110.here hx rfl (hb hby at_85) ?_
  show SS p e below T110 m 87 #[vI p1, vI p2, vI p3, vI p4, vR b101, vI (Int32.ofNat i), vI m6, vI (((p1.toUInt32 >>> ((2 : Int32) &&& 31).toUInt32).toInt32) &&& (3 : Int32)), vI c8, vI ((p4 &&& (255 : Int32)).toUInt32.toUInt16.toUInt32.toInt32), vI ((((p4.toUInt32 >>> ((8 : Int32) &&& 31).toUInt32).toInt32) &&& (255 : Int32)).toUInt32.toUInt16.toUInt32.toInt32), .unset, .unset, .unset, .unset, .unset, .unset, .unset] [(.int 16), (.int p4)] _
  refine XS.iushr X110.here hx rfl (hb hby at_87) rfl ?_
  refine XS.sipush X110.here hx rfl (hb hby at_88) ?_
  refine XS.iand X110.here hx rfl (hb hby at_91) rfl ?_
  refine XS.i2c X110.here hx rfl (hb hby at_92) rfl ?_
  refine XS.istore X110.here hx rfl (hb hby at_93) rfl (l' := #[vI p1, vI p2, vI p3, vI p4, vR b101, vI (Int32.ofNat i), vI m6, vI (((p1.toUInt32 >>> ((2 : Int32) &&& 31).toUInt32).toInt32) &&& (3 : Int32)), vI c8, vI ((p4 &&& (255 : Int32)).toUInt32.toUInt16.toUInt32.toInt32), vI ((((p4.toUInt32 >>> ((8 : Int32) &&& 31).toUInt32).toInt32) &&& (255 : Int32)).toUInt32.toUInt16.toUInt32.toInt32), vI ((((p4.toUInt32 >>> ((16 : Int32) &&& 31).toUInt32).toInt32) &&& (255 : Int32)).toUInt32.toUInt16.toUInt32.toInt32), .unset, .unset, .unset, .unset, .unset, .unset]) rfl ?_
  refine XS.iloadN X110.here hx rfl (hb hby at_95) rfl ?_
  refine XS.bipush X110.here hx rfl (hb hby at_96) ?_
  show SS p e below T110 m 98 #[vI p1, vI p2, vI p3, vI p4, vR b101, vI (Int32.ofNat i), vI m6, vI (((p1.toUInt32 >>> ((2 : Int32) &&& 31).toUInt32).toInt32) &&& (3 : Int32)), vI c8, vI ((p4 &&& (255 : Int32)).toUInt32.toUInt16.toUInt32.toInt32), vI ((((p4.toUInt32 >>> ((8 : Int32) &&& 31).toUInt32).toInt32) &&& (255 : Int32)).toUInt32.toUInt16.toUInt32.toInt32), vI ((((p4.toUInt32 >>> ((16 : Int32) &&& 31).toUInt32).toInt32) &&& (255 : Int32)).toUInt32.toUInt16.toUInt32.toInt32), .unset, .unset, .unset, .unset, .unset, .unset] [(.int 24), (.int p4)] _
  refine XS.iushr X110.here hx rfl (hb hby at_98) rfl ?_
  refine XS.sipush X110.here hx rfl (hb hby at_99) ?_
  refine XS.iand X110.here hx rfl (hb hby at_102) rfl ?_
  refine XS.i2c X110.here hx rfl (hb hby at_103) rfl ?_
  refine XS.istore X110.here hx rfl (hb hby at_104) rfl (l' := #[vI p1, vI p2, vI p3, vI p4, vR b101, vI (Int32.ofNat i), vI m6, vI (((p1.toUInt32 >>> ((2 : Int32) &&& 31).toUInt32).toInt32) &&& (3 : Int32)), vI c8, vI ((p4 &&& (255 : Int32)).toUInt32.toUInt16.toUInt32.toInt32), vI ((((p4.toUInt32 >>> ((8 : Int32) &&& 31).toUInt32).toInt32) &&& (255 : Int32)).toUInt32.toUInt16.toUInt32.toInt32), vI ((((p4.toUInt32 >>> ((16 : Int32) &&& 31).toUInt32).toInt32) &&& (255 : Int32)).toUInt32.toUInt16.toUInt32.toInt32), vI ((((p4.toUInt32 >>> ((24 : Int32) &&& 31).toUInt32).toInt32) &&& (255 : Int32)).toUInt32.toUInt16.toUInt32.toInt32), .unset, .unset, .unset, .unset, .unset]) rfl ?_
  exact kt
 obtain ⟨a9, ea9, ra9⟩ : ∃ z, ((p4 &&& (255 : Int32)).toUInt32.toUInt16.toUInt32.toInt32) = z ∧ (¬ z < 0 ∧ ¬ (255 : Int32) < z) := ⟨_, rfl, own_byte1 _⟩
 have hr114 : ((p4 &&& (255 : Int32)).toUInt32.toUInt16.toUInt32.toInt32) = a9 := ea9
 obtain ⟨a10, ea10, ra10⟩ : ∃ z, ((((p4.toUInt32 >>> ((8 : Int32) &&& 31).toUInt32).toInt32) &&& (255 : Int32)).toUInt32.toUInt16.toUInt32.toInt32) = z ∧ (¬ z < 0 ∧ ¬ (255 : Int32) < z) := ⟨_, rfl, own_byte1 _⟩
 have hr115 : ((((p4.toUInt32 >>> ((8 : Int32) &&& 31).toUInt32).toInt32) &&& (255 : Int32)).toUInt32.toUInt16.toUInt32.toInt32) = a10 := ea10
 obtain ⟨a11, ea11, ra11⟩ : ∃ z, ((((p4.toUInt32 >>> ((16 : Int32) &&& 31).toUInt32).toInt32) &&& (255 : Int32)).toUInt32.toUInt16.toUInt32.toInt32) = z ∧ (¬ z < 0 ∧ ¬ (255 : Int32) < z) := ⟨_, rfl, own_byte1 _⟩
 have hr116 : ((((p4.toUInt32 >>> ((16 : Int32) &&& 31).toUInt32).toInt32) &&& (255 : Int32)).toUInt32.toUInt16.toUInt32.toInt32) = a11 := ea11
 obtain ⟨a12, ea12, ra12⟩ : ∃ z, ((((p4.toUInt32 >>> ((24 : Int32) &&& 31).toUInt32).toInt32) &&& (255 : Int32)).toUInt32.toUInt16.toUInt32.toInt32) = z ∧ (¬ z < 0 ∧ ¬ (255 : Int32) < z) := ⟨_, rfl, own_byte1 _⟩
 have hr117 : ((((p4.toUInt32 >>> ((24 : Int32) &&& 31).toUInt32).toInt32) &&& (255 : Int32)).toUInt32.toUInt16.toUInt32.toInt32) = a12 := ea12
 have pre119 : ∀ t, SS p e below T110 m 114 #[vI p1, vI p2, vI p3, vI p4, vR b101, vI (Int32.ofNat i), vI m6, vI (((p1.toUInt32 >>> ((2 : Int32) &&& 31).toUInt32).toInt32) &&& (3 : Int32)), vI c8, vI a9, vI a10, vI a11, vI a12, vI (p1 &&& (3 : Int32)), .unset, .unset, .unset, .unset] [(.int 3), (.int (p1 &&& (3 : Int32)))] t → SE p e below s₁ m #[(.int p1), (.int p2), (.int p3), (.int p4)] maxLocals t := by
  intro t kt
  refine pre113 _ ?_
  show SS p e below T110 m 106 #[vI p1, vI p2, vI p3, vI p4, vR b101, vI (Int32.ofNat i), vI m6, vI (((p1.toUInt32 >>> ((2 : Int32) &&& 31).toUInt32).toInt32) &&& (3 : Int32)), vI c8, vI ((p4 &&& (255 : Int32)).toUInt32.toUInt16.toUInt32.toInt32), vI ((((p4.toUInt32 >>> ((8 : Int32) &&& 31).toUInt32).toInt32) &&& (255 : Int32)).toUInt32.toUInt16.toUInt32.toInt32), vI ((((p4.toUInt32 >>> ((16 : Int32) &&& 31).toUInt32).toInt32) &&& (255 : Int32)).toUInt32.toUInt16.toUInt32.toInt32), vI ((((p4.toUInt32 >>> ((24 : Int32) &&& 31).toUInt32).toInt32) &&& (255 : Int32)).toUInt32.toUInt16.toUInt32.toInt32), .unset, .unset, .unset, .unset, .unset] [] _
  rw [hr114]
  show SS p e below T110 m 106 #[vI p1, vI p2, vI p3, vI p4, vR b101, vI (Int32.ofNat i), vI m6, vI (((p1.toUInt32 >>> ((2 : Int32) &&& 31).toUInt32).toInt32) &&& (3 : Int32)), vI c8, vI a9, vI ((((p4.toUInt32 >>> ((8 : Int32) &&& 31).toUInt32).toInt32) &&& (255 : Int32)).toUInt32.toUInt16.toUInt32.toInt32), vI ((((p4.toUInt32 >>> ((16 : Int32) &&& 31).toUInt32).toInt32) &&& (255 : Int32)).toUInt32.toUInt16.toUInt32.toInt32), vI ((((p4.toUInt32 >>> ((24 : Int32) &&& 31).toUInt32).toInt32) &&& (255 : Int32)).toUInt32.toUInt16.toUInt32.toInt32), .unset, .unset, .unset, .unset, .unset] [] _
  rw [hr115]
  show SS p e below T110 m 106 #[vI p1, vI p2, vI p3, vI p4, vR b101, vI (Int32.ofNat i), vI m6, vI (((p1.toUInt32 >>> ((2 : Int32) &&& 31).toUInt32).toInt32) &&& (3 : Int32)), vI c8, vI a9, vI a10, vI ((((p4.toUInt32 >>> ((16 : Int32) &&& 31).toUInt32).toInt32) &&& (255 : Int32)).toUInt32.toUInt16.toUInt32.toInt32), vI ((((p4.toUInt32 >>> ((24 : Int32) &&& 31).toUInt32).toInt32) &&& (255 : Int32)).toUInt32.toUInt16.toUInt32.toInt32), .unset, .unset, .unset, .unset, .unset] [] _
  rw [hr116]
  show SS p e below T110 m 106 #[vI p1, vI p2, vI p3, vI p4, vR b101, vI (Int32.ofNat i), vI m6, vI (((p1.toUInt32 >>> ((2 : Int32) &&& 31).toUInt32).toInt32) &&& (3 : Int32)), vI c8, vI a9, vI a10, vI a11, vI ((((p4.toUInt32 >>> ((24 : Int32) &&& 31).toUInt32).toInt32) &&& (255 : Int32)).toUInt32.toUInt16.toUInt32.toInt32), .unset, .unset, .unset, .unset, .unset] [] _
  rw [hr117]
  refine XS.iloadN X110.here hx rfl (hb hby at_106) rfl ?_
  refine XS.iconst X110.here hx rfl (hb hby at_107) ?_
  refine XS.iand X110.here hx rfl (hb hby at_108) rfl ?_
  refine XS.istore X110.here hx rfl (hb hby at_109) rfl (l' := #[vI p1, vI p2, vI p3, vI p4, vR b101, vI (Int32.ofNat i), vI m6, vI (((p1.toUInt32 >>> ((2 : Int32) &&& 31).toUInt32).toInt32) &&& (3 : Int32)), vI c8, vI a9, vI a10, vI a11, vI a12, vI (p1 &&& (3 : Int32)), .unset, .unset, .unset, .unset]) rfl ?_
  refine XS.iload X110.here hx rfl (hb hby at_111) rfl ?_
  refine XS.iconst X110.here hx rfl (hb hby at_113) ?_
  exact kt
 by_cases hc118 : (p1 &&& (3 : Int32)) = (3 : Int32)
 ·skip
  obtain ⟨_, _, ⟨T120, L120, k120, n120⟩, -, X120, ⟨Lc120, hQ120, l120, y120, z120⟩, st120⟩ := Jvm.LawKit.callS X110 hx (y := mN33) hown101 (mvT hZ101 (tw hw 56 rfl)) (mvT hZ101 (tw hw 57 rfl)) (mvT hZ101 (tw hw 58 rfl)) (mvT hZ101 (tw hw 59 rfl)) (by decide) (backOf (W := 0) (rmIfN l Z a0 hw []   h101 n0 O105 ) hZ101 (tw hw 59 rfl) (tw hw 58 rfl) (by decide) (by decide)) (g := (mkF m 118 #[vI p1, vI p2, vI p3, vI p4, vR b101, vI (Int32.ofNat i), vI m6, vI (((p1.toUInt32 >>> ((2 : Int32) &&& 31).toUInt32).toInt32) &&& (3 : Int32)), vI c8, vI a9, vI a10, vI a11, vI a12, vI (p1 &&& (3 : Int32)), .unset, .unset, .unset, .unset] [.null])) rfl (by rw [hml]; rfl) (argsL := [.null]) (rest := []) (lenOf pd_11 rfl) rfl (wL _) (hb hby at_118) (fun _ _ => ⟨rfl, f110, (by decide : 3 + 0 ≤ _), (by decide : 200 + 0 ≤ _)⟩)
  dsimp only [Pt.U, Pt.locs, Pt.cells, Pt.slots] at X120 l120 y120 z120 st120 hQ120
  rw [l120] at X120
  subst y120 z120
  obtain ⟨rfl, N120q, H120⟩ := hQ120
  have N120 := Fr.app N110 N120q
  obtain ⟨fs, hr, hrun, hended, eR, eW, eI, eS⟩ := Stand.leaveW (s := s) (vm₁ := T101.vm) X120 hS101 (by rw [H120]; omega) (v := some (.int 1)) (nvr Bd.returns)
  refine ⟨_, _, pre119 _ ?_, hrun, hended, _, _, rfl, ?_, eR, eW, eI, eS.mono (by decide) (by decide)⟩
  ·skip
   show SS p e below T110 m 114 #[vI p1, vI p2, vI p3, vI p4, vR b101, vI (Int32.ofNat i), vI m6, vI (((p1.toUInt32 >>> ((2 : Int32) &&& 31).toUInt32).toInt32) &&& (3 : Int32)), vI c8, vI a9, vI a10, vI a11, vI a12, vI (p1 &&& (3 : Int32)), .unset, .unset, .unset, .unset] [(.int 3), (.int (p1 &&& (3 : Int32)))] _
   refine XS.icmpNo X110.here hx rfl (hb hby at_114) rfl (teq hc118).2 ?_
   refine XS.aconstNull X110.here hx rfl (hb hby at_117) ?_
   show SS p e below T110 m 118 #[vI p1, vI p2, vI p3, vI p4, vR b101, vI (Int32.ofNat i), vI m6, vI (((p1.toUInt32 >>> ((2 : Int32) &&& 31).toUInt32).toInt32) &&& (3 : Int32)), vI c8, vI a9, vI a10, vI a11, vI a12, vI (p1 &&& (3 : Int32)), .unset, .unset, .unset, .unset] [.null] _
   refine st120 _ ?_
   refine XS.ifNo X120.here hx rfl (hb hby at_121) rfl ((if0 _ _).trans (teq (by decide : (0 : Int32) = (0 : Int32))).2) ?_
   refine XS.iconst X120.here hx rfl (hb hby at_124) ?_
   refine XS.goto X120.here hx rfl (pc0 := 125) (pc' := 129) rfl (hb hby at_125) (by decide) (by decide) ?_
   show SS p e below T120 m 129 #[vI p1, vI p2, vI p3, vI p4, vR b101, vI (Int32.ofNat i), vI m6, vI (((p1.toUInt32 >>> ((2 : Int32) &&& 31).toUInt32).toInt32) &&& (3 : Int32)), vI c8, vI a9, vI a10, vI a11, vI a12, vI (p1 &&& (3 : Int32)), .unset, .unset, .unset, .unset] [(.int 1)] _
   exact retN X120 hx (t := .boolean) Bd.returns (by simp) (hb hby at_129) hr
  ·show Q_rm0 Z p1 p2 p3 p4 cs0 fm cin ta kA h0 n0 _ T120.heap _
   rw [H120]
   exact ⟨rfl, N120⟩
 ·skip
  have pre121 : ∀ t, SS p e below T110 m 130 #[vI p1, vI p2, vI p3, vI p4, vR b101, vI (Int32.ofNat i), vI m6, vI (((p1.toUInt32 >>> ((2 : Int32) &&& 31).toUInt32).toInt32) &&& (3 : Int32)), vI c8, vI a9, vI a10, vI a11, vI a12, vI (p1 &&& (3 : Int32)), .unset, .unset, .unset, .unset] [] t → SE p e below s₁ m #[(.int p1), (.int p2), (.int p3), (.int p4)] maxLocals t := by
   intro t kt
   refine pre119 _ ?_
   show SS p e below T110 m 114 #[vI p1, vI p2, vI p3, vI p4, vR b101, vI (Int32.ofNat i), vI m6, vI (((p1.toUInt32 >>> ((2 : Int32) &&& 31).toUInt32).toInt32) &&& (3 : Int32)), vI c8, vI a9, vI a10, vI a11, vI a12, vI (p1 &&& (3 : Int32)), .unset, .unset, .unset, .unset] [(.int 3), (.int (p1 &&& (3 : Int32)))] _
   refine XS.icmpYes X110.here hx rfl (pc0 := 114) (pc' := 130) rfl (hb hby at_114) rfl (feq hc118).2 (by decide) (by decide) ?_
   exact kt
  obtain ⟨T122, h122, L122, X122, e122, N122, H122, st122⟩ := tnS p1 p2 p3 p4 m6 c8 a9 a10 a11 a12 b101 i (X110.more (by decide) (by decide)) hx hZ101 hw hby hml hown101 f110 O105 N110
  have f122 := e122.trans H122
  have pre124 : ∀ t, SS p e below T122 m 171 #[vI p1, vI p2, vI p3, vI p4, vR b101, vI (Int32.ofNat i), vI m6, vI (((p1.toUInt32 >>> ((2 : Int32) &&& 31).toUInt32).toInt32) &&& (3 : Int32)), vI c8, vI a9, vI a10, vI a11, vI a12, vI (p1 &&& (3 : Int32)), vI (smF c8 m6), .unset, .unset, .unset] [(.int (p1 &&& (3 : Int32)))] t → SE p e below s₁ m #[(.int p1), (.int p2), (.int p3), (.int p4)] maxLocals t := by
   intro t kt
   refine pre121 _ ?_
   refine st122 _ ?_
   show SS p e below T122 m 169 #[vI p1, vI p2, vI p3, vI p4, vR b101, vI (Int32.ofNat i), vI m6, vI (((p1.toUInt32 >>> ((2 : Int32) &&& 31).toUInt32).toInt32) &&& (3 : Int32)), vI c8, vI a9, vI a10, vI a11, vI a12, vI (p1 &&& (3 : Int32)), vI (smF c8 m6), .unset, .unset, .unset] [] _
   refine XS.iload X122.here hx rfl (hb hby at_169) rfl ?_
   exact kt
  by_cases hc123 : (p1 &&& (3 : Int32)) = (0 : Int32)
  ·skip
   obtain ⟨T125, h125, k125, X125, e125, E125, A125, st125⟩ := newP X122 hx hZ101 (tw hw 34 rfl) f122 (g := (mkF m 176 #[vI p1, vI p2, vI p3, vI p4, vR b101, vI (Int32.ofNat i), vI m6, vI (((p1.toUInt32 >>> ((2 : Int32) &&& 31).toUInt32).toInt32) &&& (3 : Int32)), vI c8, vI a9, vI a10, vI a11, vI a12, vI (p1 &&& (3 : Int32)), vI (smF c8 m6), .unset, .unset, .unset] [(.int 33)])) rfl (hb hby at_176) rfl (by decide) (cap := 33) (by decide) (by decide) (by decide) (by decide)
   obtain ⟨b125, g125⟩ : ∃ z, z = h101.size := ⟨_, rfl⟩
   rw [← g125] at A125 st125
   have V125 : Arv Z h125 b125 k125 .char (33 : Int32) [(.int 0), (.int 0), (.int 0), (.int 0), (.int 0), (.int 0), (.int 0), (.int 0), (.int 0), (.int 0), (.int 0), (.int 0), (.int 0), (.int 0), (.int 0), (.int 0), (.int 0), (.int 0), (.int 0), (.int 0), (.int 0), (.int 0), (.int 0), (.int 0), (.int 0), (.int 0), (.int 0), (.int 0), (.int 0), (.int 0), (.int 0), (.int 0), (.int 0)] (.int 0) := (Arv.new A125 (by decide)).pad (pad_rep [] (.int 0) 33)
   have lt125 : @LT.lt Nat _ b125 h125.size := V125.lt
   have K125 : Keep h101 h125 [] := (Keep.refl _ _).ext E125
   have cR2_K125 := cR1_K101.trans (CHr.keep K125 sf0 cR1_K101.1)
   have sz2_K125 := K125.1
   obtain ⟨cl126, Ar126, q126, S126, Nn126, H126, G126⟩ := id V125
   obtain ⟨T127, h127, X127, e127, W127, st127⟩ := stC X125 hx hZ101 e125 Ar126 (j := (0 : Int32)) (inb_of S126 ⟨by decide, by decide⟩) (g := (mkF m 182 #[vI p1, vI p2, vI p3, vI p4, vR b101, vI (Int32.ofNat i), vI m6, vI (((p1.toUInt32 >>> ((2 : Int32) &&& 31).toUInt32).toInt32) &&& (3 : Int32)), vI c8, vI a9, vI a10, vI a11, vI a12, vI (p1 &&& (3 : Int32)), vI (smF c8 m6), .unset, .unset, .unset] [(.int 97), (.int 0), (.ref b125), (.ref b125)])) rfl rfl (hb hby at_182)
   rw [own_nc (show ¬ (97 : Int32) < 0 ∧ ¬ (65535 : Int32) < (97 : Int32) by decide)] at W127
   have V127 : Arv Z h127 b125 k125 .char (33 : Int32) [(.int 97), (.int 0), (.int 0), (.int 0), (.int 0), (.int 0), (.int 0), (.int 0), (.int 0), (.int 0), (.int 0), (.int 0), (.int 0), (.int 0), (.int 0), (.int 0), (.int 0), (.int 0), (.int 0), (.int 0), (.int 0), (.int 0), (.int 0), (.int 0), (.int 0), (.int 0), (.int 0), (.int 0), (.int 0), (.int 0), (.int 0), (.int 0), (.int 0)] (.int 0) := Arv.set Ar126 q126 S126 Nn126 H126 G126 (own_fitc (show ¬ (97 : Int32) < 0 ∧ ¬ (65535 : Int32) < (97 : Int32) by decide)) W127 0 rfl (Nat.le_of_ble_eq_true rfl)
   have K127 := Keep.of_wr W127
   have N127 := Fr.snoc X127 N122 (by omega : @LE.le Nat _ n0 b125)
   have hs3_K127 : ∀ x ∈ ([b125] : List Addr), Safe Z EL1 T101.vm h125 x := sfS (Safe.arv hZ101.alike V125 (by decide)) (sf0)
   have cR3_K127 := cR2_K125.trans (CHr.keep K127 hs3_K127 cR2_K125.1)
   have sz3_K127 := K127.1
   obtain ⟨cl128, Ar128, q128, S128, Nn128, H128, G128⟩ := id V127
   obtain ⟨T129, h129, X129, e129, W129, st129⟩ := stC X127 hx hZ101 e127 Ar128 (j := (1 : Int32)) (inb_of S128 ⟨by decide, by decide⟩) (g := (mkF m 187 #[vI p1, vI p2, vI p3, vI p4, vR b101, vI (Int32.ofNat i), vI m6, vI (((p1.toUInt32 >>> ((2 : Int32) &&& 31).toUInt32).toInt32) &&& (3 : Int32)), vI c8, vI a9, vI a10, vI a11, vI a12, vI (p1 &&& (3 : Int32)), vI (smF c8 m6), .unset, .unset, .unset] [(.int 112), (.int 1), (.ref b125), (.ref b125)])) rfl rfl (hb hby at_187)
   rw [own_nc (show ¬ (112 : Int32) < 0 ∧ ¬ (65535 : Int32) < (112 : Int32) by decide)] at W129
   have V129 : Arv Z h129 b125 k125 .char (33 : Int32) [(.int 97), (.int 112), (.int 0), (.int 0), (.int 0), (.int 0), (.int 0), (.int 0), (.int 0), (.int 0), (.int 0), (.int 0), (.int 0), (.int 0), (.int 0), (.int 0), (.int 0), (.int 0), (.int 0), (.int 0), (.int 0), (.int 0), (.int 0), (.int 0), (.int 0), (.int 0), (.int 0), (.int 0), (.int 0), (.int 0), (.int 0), (.int 0), (.int 0)] (.int 0) := Arv.set Ar128 q128 S128 Nn128 H128 G128 (own_fitc (show ¬ (112 : Int32) < 0 ∧ ¬ (65535 : Int32) < (112 : Int32) by decide)) W129 1 rfl (Nat.le_of_ble_eq_true rfl)
   have K129 := Keep.of_wr W129
   have N129 := Fr.snoc X129 N127 (by omega : @LE.le Nat _ n0 b125)
   have hs4_K129 : ∀ x ∈ ([b125] : List Addr), Safe Z EL1 T101.vm h127 x := sfS (Safe.arv hZ101.alike V127 (by decide)) (sf0)
   have cR4_K129 := cR3_K127.trans (CHr.keep K129 hs4_K129 cR3_K127.1)
   have sz4_K129 := K129.1
   obtain ⟨cl130, Ar130, q130, S130, Nn130, H130, G130⟩ := id V129
   obtain ⟨T131, h131, X131, e131, W131, st131⟩ := stC X129 hx hZ101 e129 Ar130 (j := (2 : Int32)) (inb_of S130 ⟨by decide, by decide⟩) (g := (mkF m 192 #[vI p1, vI p2, vI p3, vI p4, vR b101, vI (Int32.ofNat i), vI m6, vI (((p1.toUInt32 >>> ((2 : Int32) &&& 31).toUInt32).toInt32) &&& (3 : Int32)), vI c8, vI a9, vI a10, vI a11, vI a12, vI (p1 &&& (3 : Int32)), vI (smF c8 m6), .unset, .unset, .unset] [(.int 112), (.int 2), (.ref b125), (.ref b125)])) rfl rfl (hb hby at_192)
   rw [own_nc (show ¬ (112 : Int32) < 0 ∧ ¬ (65535 : Int32) < (112 : Int32) by decide)] at W131
   have V131 : Arv Z h131 b125 k125 .char (33 : Int32) [(.int 97), (.int 112), (.int 112), (.int 0), (.int 0), (.int 0), (.int 0), (.int 0), (.int 0), (.int 0), (.int 0), (.int 0), (.int 0), (.int 0), (.int 0), (.int 0), (.int 0), (.int 0), (.int 0), (.int 0), (.int 0), (.int 0), (.int 0), (.int 0), (.int 0), (.int 0), (.int 0), (.int 0), (.int 0), (.int 0), (.int 0), (.int 0), (.int 0)] (.int 0) := Arv.set Ar130 q130 S130 Nn130 H130 G130 (own_fitc (show ¬ (112 : Int32) < 0 ∧ ¬ (65535 : Int32) < (112 : Int32) by decide)) W131 2 rfl (Nat.le_of_ble_eq_true rfl)
   have K131 := Keep.of_wr W131
   have N131 := Fr.snoc X131 N129 (by omega : @LE.le Nat _ n0 b125)
   have hs5_K131 : ∀ x ∈ ([b125] : List Addr), Safe Z EL1 T101.vm h129 x := sfS (Safe.arv hZ101.alike V129 (by decide)) (sf0)
   have cR5_K131 := cR4_K129.trans (CHr.keep K131 hs5_K131 cR4_K129.1)
   have sz5_K131 := K131.1
   obtain ⟨cl132, Ar132, q132, S132, Nn132, H132, G132⟩ := id V131
   obtain ⟨T133, h133, X133, e133, W133, st133⟩ := stC X131 hx hZ101 e131 Ar132 (j := (3 : Int32)) (inb_of S132 ⟨by decide, by decide⟩) (g := (mkF m 197 #[vI p1, vI p2, vI p3, vI p4, vR b101, vI (Int32.ofNat i), vI m6, vI (((p1.toUInt32 >>> ((2 : Int32) &&& 31).toUInt32).toInt32) &&& (3 : Int32)), vI c8, vI a9, vI a10, vI a11, vI a12, vI (p1 &&& (3 : Int32)), vI (smF c8 m6), .unset, .unset, .unset] [(.int 108), (.int 3), (.ref b125), (.ref b125)])) rfl rfl (hb hby at_197)
   rw [own_nc (show ¬ (108 : Int32) < 0 ∧ ¬ (65535 : Int32) < (108 : Int32) by decide)] at W133
   have V133 : Arv Z h133 b125 k125 .char (33 : Int32) [(.int 97), (.int 112), (.int 112), (.int 108), (.int 0), (.int 0), (.int 0), (.int 0), (.int 0), (.int 0), (.int 0), (.int 0), (.int 0), (.int 0), (.int 0), (.int 0), (.int 0), (.int 0), (.int 0), (.int 0), (.int 0), (.int 0), (.int 0), (.int 0), (.int 0), (.int 0), (.int 0), (.int 0), (.int 0), (.int 0), (.int 0), (.int 0), (.int 0)] (.int 0) := Arv.set Ar132 q132 S132 Nn132 H132 G132 (own_fitc (show ¬ (108 : Int32) < 0 ∧ ¬ (65535 : Int32) < (108 : Int32) by decide)) W133 3 rfl (Nat.le_of_ble_eq_true rfl)
   have K133 := Keep.of_wr W133
   have N133 := Fr.snoc X133 N131 (by omega : @LE.le Nat _ n0 b125)
   have hs6_K133 : ∀ x ∈ ([b125] : List Addr), Safe Z EL1 T101.vm h131 x := sfS (Safe.arv hZ101.alike V131 (by decide)) (sf0)
   have cR6_K133 := cR5_K131.trans (CHr.keep K133 hs6_K133 cR5_K131.1)
   have sz6_K133 := K133.1
   obtain ⟨cl134, Ar134, q134, S134, Nn134, H134, G134⟩ := id V133
   obtain ⟨T135, h135, X135, e135, W135, st135⟩ := stC X133 hx hZ101 e133 Ar134 (j := (4 : Int32)) (inb_of S134 ⟨by decide, by decide⟩) (g := (mkF m 202 #[vI p1, vI p2, vI p3, vI p4, vR b101, vI (Int32.ofNat i), vI m6, vI (((p1.toUInt32 >>> ((2 : Int32) &&& 31).toUInt32).toInt32) &&& (3 : Int32)), vI c8, vI a9, vI a10, vI a11, vI a12, vI (p1 &&& (3 : Int32)), vI (smF c8 m6), .unset, .unset, .unset] [(.int 105), (.int 4), (.ref b125), (.ref b125)])) rfl rfl (hb hby at_202)
   rw [own_nc (show ¬ (105 : Int32) < 0 ∧ ¬ (65535 : Int32) < (105 : Int32) by decide)] at W135
   have V135 : Arv Z h135 b125 k125 .char (33 : Int32) [(.int 97), (.int 112), (.int 112), (.int 108), (.int 105), (.int 0), (.int 0), (.int 0), (.int 0), (.int 0), (.int 0), (.int 0), (.int 0), (.int 0), (.int 0), (.int 0), (.int 0), (.int 0), (.int 0), (.int 0), (.int 0), (.int 0), (.int 0), (.int 0), (.int 0), (.int 0), (.int 0), (.int 0), (.int 0), (.int 0), (.int 0), (.int 0), (.int 0)] (.int 0) := Arv.set Ar134 q134 S134 Nn134 H134 G134 (own_fitc (show ¬ (105 : Int32) < 0 ∧ ¬ (65535 : Int32) < (105 : Int32) by decide)) W135 4 rfl (Nat.le_of_ble_eq_true rfl)
   have K135 := Keep.of_wr W135
   have N135 := Fr.snoc X135 N133 (by omega : @LE.le Nat _ n0 b125)
   have hs7_K135 : ∀ x ∈ ([b125] : List Addr), Safe Z EL1 T101.vm h133 x := sfS (Safe.arv hZ101.alike V133 (by decide)) (sf0)
   have cR7_K135 := cR6_K133.trans (CHr.keep K135 hs7_K135 cR6_K133.1)
   have sz7_K135 := K135.1
   obtain ⟨cl136, Ar136, q136, S136, Nn136, H136, G136⟩ := id V135
   obtain ⟨T137, h137, X137, e137, W137, st137⟩ := stC X135 hx hZ101 e135 Ar136 (j := (5 : Int32)) (inb_of S136 ⟨by decide, by decide⟩) (g := (mkF m 207 #[vI p1, vI p2, vI p3, vI p4, vR b101, vI (Int32.ofNat i), vI m6, vI (((p1.toUInt32 >>> ((2 : Int32) &&& 31).toUInt32).toInt32) &&& (3 : Int32)), vI c8, vI a9, vI a10, vI a11, vI a12, vI (p1 &&& (3 : Int32)), vI (smF c8 m6), .unset, .unset, .unset] [(.int 99), (.int 5), (.ref b125), (.ref b125)])) rfl rfl (hb hby at_207)
   rw [own_nc (show ¬ (99 : Int32) < 0 ∧ ¬ (65535 : Int32) < (99 : Int32) by decide)] at W137
   have V137 : Arv Z h137 b125 k125 .char (33 : Int32) [(.int 97), (.int 112), (.int 112), (.int 108), (.int 105), (.int 99), (.int 0), (.int 0), (.int 0), (.int 0), (.int 0), (.int 0), (.int 0), (.int 0), (.int 0), (.int 0), (.int 0), (.int 0), (.int 0), (.int 0), (.int 0), (.int 0), (.int 0), (.int 0), (.int 0), (.int 0), (.int 0), (.int 0), (.int 0), (.int 0), (.int 0), (.int 0), (.int 0)] (.int 0) := Arv.set Ar136 q136 S136 Nn136 H136 G136 (own_fitc (show ¬ (99 : Int32) < 0 ∧ ¬ (65535 : Int32) < (99 : Int32) by decide)) W137 5 rfl (Nat.le_of_ble_eq_true rfl)
   have K137 := Keep.of_wr W137
   have N137 := Fr.snoc X137 N135 (by omega : @LE.le Nat _ n0 b125)
   have hs8_K137 : ∀ x ∈ ([b125] : List Addr), Safe Z EL1 T101.vm h135 x := sfS (Safe.arv hZ101.alike V135 (by decide)) (sf0)
   have cR8_K137 := cR7_K135.trans (CHr.keep K137 hs8_K137 cR7_K135.1)
   have sz8_K137 := K137.1
   obtain ⟨cl138, Ar138, q138, S138, Nn138, H138, G138⟩ := id V137
   obtain ⟨T139, h139, X139, e139, W139, st139⟩ := stC X137 hx hZ101 e137 Ar138 (j := (6 : Int32)) (inb_of S138 ⟨by decide, by decide⟩) (g := (mkF m 213 #[vI p1, vI p2, vI p3, vI p4, vR b101, vI (Int32.ofNat i), vI m6, vI (((p1.toUInt32 >>> ((2 : Int32) &&& 31).toUInt32).toInt32) &&& (3 : Int32)), vI c8, vI a9, vI a10, vI a11, vI a12, vI (p1 &&& (3 : Int32)), vI (smF c8 m6), .unset, .unset, .unset] [(.int 97), (.int 6), (.ref b125), (.ref b125)])) rfl rfl (hb hby at_213)
   rw [own_nc (show ¬ (97 : Int32) < 0 ∧ ¬ (65535 : Int32) < (97 : Int32) by decide)] at W139
   have V139 : Arv Z h139 b125 k125 .char (33 : Int32) [(.int 97), (.int 112), (.int 112), (.int 108), (.int 105), (.int 99), (.int 97), (.int 0), (.int 0), (.int 0), (.int 0), (.int 0), (.int 0), (.int 0), (.int 0), (.int 0), (.int 0), (.int 0), (.int 0), (.int 0), (.int 0), (.int 0), (.int 0), (.int 0), (.int 0), (.int 0), (.int 0), (.int 0), (.int 0), (.int 0), (.int 0), (.int 0), (.int 0)] (.int 0) := Arv.set Ar138 q138 S138 Nn138 H138 G138 (own_fitc (show ¬ (97 : Int32) < 0 ∧ ¬ (65535 : Int32) < (97 : Int32) by decide)) W139 6 rfl (Nat.le_of_ble_eq_true rfl)
   have K139 := Keep.of_wr W139
   have N139 := Fr.snoc X139 N137 (by omega : @LE.le Nat _ n0 b125)
   have hs9_K139 : ∀ x ∈ ([b125] : List Addr), Safe Z EL1 T101.vm h137 x := sfS (Safe.arv hZ101.alike V137 (by decide)) (sf0)
   have cR9_K139 := cR8_K137.trans (CHr.keep K139 hs9_K139 cR8_K137.1)
   have sz9_K139 := K139.1
   obtain ⟨cl140, Ar140, q140, S140, Nn140, H140, G140⟩ := id V139
   obtain ⟨T141, h141, X141, e141, W141, st141⟩ := stC X139 hx hZ101 e139 Ar140 (j := (7 : Int32)) (inb_of S140 ⟨by decide, by decide⟩) (g := (mkF m 219 #[vI p1, vI p2, vI p3, vI p4, vR b101, vI (Int32.ofNat i), vI m6, vI (((p1.toUInt32 >>> ((2 : Int32) &&& 31).toUInt32).toInt32) &&& (3 : Int32)), vI c8, vI a9, vI a10, vI a11, vI a12, vI (p1 &&& (3 : Int32)), vI (smF c8 m6), .unset, .unset, .unset] [(.int 116), (.int 7), (.ref b125), (.ref b125)])) rfl rfl (hb hby at_219)
   rw [own_nc (show ¬ (116 : Int32) < 0 ∧ ¬ (65535 : Int32) < (116 : Int32) by decide)] at W141
   have V141 : Arv Z h141 b125 k125 .char (33 : Int32) [(.int 97), (.int 112), (.int 112), (.int 108), (.int 105), (.int 99), (.int 97), (.int 116), (.int 0), (.int 0), (.int 0), (.int 0), (.int 0), (.int 0), (.int 0), (.int 0), (.int 0), (.int 0), (.int 0), (.int 0), (.int 0), (.int 0), (.int 0), (.int 0), (.int 0), (.int 0), (.int 0), (.int 0), (.int 0), (.int 0), (.int 0), (.int 0), (.int 0)] (.int 0) := Arv.set Ar140 q140 S140 Nn140 H140 G140 (own_fitc (show ¬ (116 : Int32) < 0 ∧ ¬ (65535 : Int32) < (116 : Int32) by decide)) W141 7 rfl (Nat.le_of_ble_eq_true rfl)
   have K141 := Keep.of_wr W141
   have N141 := Fr.snoc X141 N139 (by omega : @LE.le Nat _ n0 b125)
   have hs10_K141 : ∀ x ∈ ([b125] : List Addr), Safe Z EL1 T101.vm h139 x := sfS (Safe.arv hZ101.alike V139 (by decide)) (sf0)
   have cR10_K141 := cR9_K139.trans (CHr.keep K141 hs10_K141 cR9_K139.1)
   have sz10_K141 := K141.1
   obtain ⟨cl142, Ar142, q142, S142, Nn142, H142, G142⟩ := id V141
   obtain ⟨T143, h143, X143, e143, W143, st143⟩ := stC X141 hx hZ101 e141 Ar142 (j := (8 : Int32)) (inb_of S142 ⟨by decide, by decide⟩) (g := (mkF m 225 #[vI p1, vI p2, vI p3, vI p4, vR b101, vI (Int32.ofNat i), vI m6, vI (((p1.toUInt32 >>> ((2 : Int32) &&& 31).toUInt32).toInt32) &&& (3 : Int32)), vI c8, vI a9, vI a10, vI a11, vI a12, vI (p1 &&& (3 : Int32)), vI (smF c8 m6), .unset, .unset, .unset] [(.int 105), (.int 8), (.ref b125), (.ref b125)])) rfl rfl (hb hby at_225)
   rw [own_nc (show ¬ (105 : Int32) < 0 ∧ ¬ (65535 : Int32) < (105 : Int32) by decide)] at W143
   have V143 : Arv Z h143 b125 k125 .char (33 : Int32) [(.int 97), (.int 112), (.int 112), (.int 108), (.int 105), (.int 99), (.int 97), (.int 116), (.int 105), (.int 0), (.int 0), (.int 0), (.int 0), (.int 0), (.int 0), (.int 0), (.int 0), (.int 0), (.int 0), (.int 0), (.int 0), (.int 0), (.int 0), (.int 0), (.int 0), (.int 0), (.int 0), (.int 0), (.int 0), (.int 0), (.int 0), (.int 0), (.int 0)] (.int 0) := Arv.set Ar142 q142 S142 Nn142 H142 G142 (own_fitc (show ¬ (105 : Int32) < 0 ∧ ¬ (65535 : Int32) < (105 : Int32) by decide)) W143 8 rfl (Nat.le_of_ble_eq_true rfl)
   have K143 := Keep.of_wr W143
   have N143 := Fr.snoc X143 N141 (by omega : @LE.le Nat _ n0 b125)
   have hs11_K143 : ∀ x ∈ ([b125] : List Addr), Safe Z EL1 T101.vm h141 x := sfS (Safe.arv hZ101.alike V141 (by decide)) (sf0)
   have cR11_K143 := cR10_K141.trans (CHr.keep K143 hs11_K143 cR10_K141.1)
   have sz11_K143 := K143.1
   obtain ⟨cl144, Ar144, q144, S144, Nn144, H144, G144⟩ := id V143
   obtain ⟨T145, h145, X145, e145, W145, st145⟩ := stC X143 hx hZ101 e143 Ar144 (j := (9 : Int32)) (inb_of S144 ⟨by decide, by decide⟩) (g := (mkF m 231 #[vI p1, vI p2, vI p3, vI p4, vR b101, vI (Int32.ofNat i), vI m6, vI (((p1.toUInt32 >>> ((2 : Int32) &&& 31).toUInt32).toInt32) &&& (3 : Int32)), vI c8, vI a9, vI a10, vI a11, vI a12, vI (p1 &&& (3 : Int32)), vI (smF c8 m6), .unset, .unset, .unset] [(.int 111), (.int 9), (.ref b125), (.ref b125)])) rfl rfl (hb hby at_231)
   rw [own_nc (show ¬ (111 : Int32) < 0 ∧ ¬ (65535 : Int32) < (111 : Int32) by decide)] at W145
   have V145 : Arv Z h145 b125 k125 .char (33 : Int32) [(.int 97), (.int 112), (.int 112), (.int 108), (.int 105), (.int 99), (.int 97), (.int 116), (.int 105), (.int 111), (.int 0), (.int 0), (.int 0), (.int 0), (.int 0), (.int 0), (.int 0), (.int 0), (.int 0), (.int 0), (.int 0), (.int 0), (.int 0), (.int 0), (.int 0), (.int 0), (.int 0), (.int 0), (.int 0), (.int 0), (.int 0), (.int 0), (.int 0)] (.int 0) := Arv.set Ar144 q144 S144 Nn144 H144 G144 (own_fitc (show ¬ (111 : Int32) < 0 ∧ ¬ (65535 : Int32) < (111 : Int32) by decide)) W145 9 rfl (Nat.le_of_ble_eq_true rfl)
   have K145 := Keep.of_wr W145
   have N145 := Fr.snoc X145 N143 (by omega : @LE.le Nat _ n0 b125)
   have hs12_K145 : ∀ x ∈ ([b125] : List Addr), Safe Z EL1 T101.vm h143 x := sfS (Safe.arv hZ101.alike V143 (by decide)) (sf0)
   have cR12_K145 := cR11_K143.trans (CHr.keep K145 hs12_K145 cR11_K143.1)
   have sz12_K145 := K145.1
   obtain ⟨cl146, Ar146, q146, S146, Nn146, H146, G146⟩ := id V145
   obtain ⟨T147, h147, X147, e147, W147, st147⟩ := stC X145 hx hZ101 e145 Ar146 (j := (10 : Int32)) (inb_of S146 ⟨by decide, by decide⟩) (g := (mkF m 237 #[vI p1, vI p2, vI p3, vI p4, vR b101, vI (Int32.ofNat i), vI m6, vI (((p1.toUInt32 >>> ((2 : Int32) &&& 31).toUInt32).toInt32) &&& (3 : Int32)), vI c8, vI a9, vI a10, vI a11, vI a12, vI (p1 &&& (3 : Int32)), vI (smF c8 m6), .unset, .unset, .unset] [(.int 110), (.int 10), (.ref b125), (.ref b125)])) rfl rfl (hb hby at_237)
   rw [own_nc (show ¬ (110 : Int32) < 0 ∧ ¬ (65535 : Int32) < (110 : Int32) by decide)] at W147
   have V147 : Arv Z h147 b125 k125 .char (33 : Int32) [(.int 97), (.int 112), (.int 112), (.int 108), (.int 105), (.int 99), (.int 97), (.int 116), (.int 105), (.int 111), (.int 110), (.int 0), (.int 0), (.int 0), (.int 0), (.int 0), (.int 0), (.int 0), (.int 0), (.int 0), (.int 0), (.int 0), (.int 0), (.int 0), (.int 0), (.int 0), (.int 0), (.int 0), (.int 0), (.int 0), (.int 0), (.int 0), (.int 0)] (.int 0) := Arv.set Ar146 q146 S146 Nn146 H146 G146 (own_fitc (show ¬ (110 : Int32) < 0 ∧ ¬ (65535 : Int32) < (110 : Int32) by decide)) W147 10 rfl (Nat.le_of_ble_eq_true rfl)
   have K147 := Keep.of_wr W147
   have N147 := Fr.snoc X147 N145 (by omega : @LE.le Nat _ n0 b125)
   have hs13_K147 : ∀ x ∈ ([b125] : List Addr), Safe Z EL1 T101.vm h145 x := sfS (Safe.arv hZ101.alike V145 (by decide)) (sf0)
   have cR13_K147 := cR12_K145.trans (CHr.keep K147 hs13_K147 cR12_K145.1)
   have sz13_K147 := K147.1
   obtain ⟨cl148, Ar148, q148, S148, Nn148, H148, G148⟩ := id V147
   obtain ⟨T149, h149, X149, e149, W149, st149⟩ := stC X147 hx hZ101 e147 Ar148 (j := (11 : Int32)) (inb_of S148 ⟨by decide, by decide⟩) (g := (mkF m 243 #[vI p1, vI p2, vI p3, vI p4, vR b101, vI (Int32.ofNat i), vI m6, vI (((p1.toUInt32 >>> ((2 : Int32) &&& 31).toUInt32).toInt32) &&& (3 : Int32)), vI c8, vI a9, vI a10, vI a11, vI a12, vI (p1 &&& (3 : Int32)), vI (smF c8 m6), .unset, .unset, .unset] [(.int 47), (.int 11), (.ref b125), (.ref b125)])) rfl rfl (hb hby at_243)
   rw [own_nc (show ¬ (47 : Int32) < 0 ∧ ¬ (65535 : Int32) < (47 : Int32) by decide)] at W149
   have V149 : Arv Z h149 b125 k125 .char (33 : Int32) [(.int 97), (.int 112), (.int 112), (.int 108), (.int 105), (.int 99), (.int 97), (.int 116), (.int 105), (.int 111), (.int 110), (.int 47), (.int 0), (.int 0), (.int 0), (.int 0), (.int 0), (.int 0), (.int 0), (.int 0), (.int 0), (.int 0), (.int 0), (.int 0), (.int 0), (.int 0), (.int 0), (.int 0), (.int 0), (.int 0), (.int 0), (.int 0), (.int 0)] (.int 0) := Arv.set Ar148 q148 S148 Nn148 H148 G148 (own_fitc (show ¬ (47 : Int32) < 0 ∧ ¬ (65535 : Int32) < (47 : Int32) by decide)) W149 11 rfl (Nat.le_of_ble_eq_true rfl)
   have K149 := Keep.of_wr W149
   have N149 := Fr.snoc X149 N147 (by omega : @LE.le Nat _ n0 b125)
   have hs14_K149 : ∀ x ∈ ([b125] : List Addr), Safe Z EL1 T101.vm h147 x := sfS (Safe.arv hZ101.alike V147 (by decide)) (sf0)
   have cR14_K149 := cR13_K147.trans (CHr.keep K149 hs14_K149 cR13_K147.1)
   have sz14_K149 := K149.1
   obtain ⟨cl150, Ar150, q150, S150, Nn150, H150, G150⟩ := id V149
   obtain ⟨T151, h151, X151, e151, W151, st151⟩ := stC X149 hx hZ101 e149 Ar150 (j := (12 : Int32)) (inb_of S150 ⟨by decide, by decide⟩) (g := (mkF m 249 #[vI p1, vI p2, vI p3, vI p4, vR b101, vI (Int32.ofNat i), vI m6, vI (((p1.toUInt32 >>> ((2 : Int32) &&& 31).toUInt32).toInt32) &&& (3 : Int32)), vI c8, vI a9, vI a10, vI a11, vI a12, vI (p1 &&& (3 : Int32)), vI (smF c8 m6), .unset, .unset, .unset] [(.int 120), (.int 12), (.ref b125), (.ref b125)])) rfl rfl (hb hby at_249)
   rw [own_nc (show ¬ (120 : Int32) < 0 ∧ ¬ (65535 : Int32) < (120 : Int32) by decide)] at W151
   have V151 : Arv Z h151 b125 k125 .char (33 : Int32) [(.int 97), (.int 112), (.int 112), (.int 108), (.int 105), (.int 99), (.int 97), (.int 116), (.int 105), (.int 111), (.int 110), (.int 47), (.int 120), (.int 0), (.int 0), (.int 0), (.int 0), (.int 0), (.int 0), (.int 0), (.int 0), (.int 0), (.int 0), (.int 0), (.int 0), (.int 0), (.int 0), (.int 0), (.int 0), (.int 0), (.int 0), (.int 0), (.int 0)] (.int 0) := Arv.set Ar150 q150 S150 Nn150 H150 G150 (own_fitc (show ¬ (120 : Int32) < 0 ∧ ¬ (65535 : Int32) < (120 : Int32) by decide)) W151 12 rfl (Nat.le_of_ble_eq_true rfl)
   have K151 := Keep.of_wr W151
   have N151 := Fr.snoc X151 N149 (by omega : @LE.le Nat _ n0 b125)
   have hs15_K151 : ∀ x ∈ ([b125] : List Addr), Safe Z EL1 T101.vm h149 x := sfS (Safe.arv hZ101.alike V149 (by decide)) (sf0)
   have cR15_K151 := cR14_K149.trans (CHr.keep K151 hs15_K151 cR14_K149.1)
   have sz15_K151 := K151.1
   obtain ⟨cl152, Ar152, q152, S152, Nn152, H152, G152⟩ := id V151
   obtain ⟨T153, h153, X153, e153, W153, st153⟩ := stC X151 hx hZ101 e151 Ar152 (j := (13 : Int32)) (inb_of S152 ⟨by decide, by decide⟩) (g := (mkF m 255 #[vI p1, vI p2, vI p3, vI p4, vR b101, vI (Int32.ofNat i), vI m6, vI (((p1.toUInt32 >>> ((2 : Int32) &&& 31).toUInt32).toInt32) &&& (3 : Int32)), vI c8, vI a9, vI a10, vI a11, vI a12, vI (p1 &&& (3 : Int32)), vI (smF c8 m6), .unset, .unset, .unset] [(.int 45), (.int 13), (.ref b125), (.ref b125)])) rfl rfl (hb hby at_255)
   rw [own_nc (show ¬ (45 : Int32) < 0 ∧ ¬ (65535 : Int32) < (45 : Int32) by decide)] at W153
   have V153 : Arv Z h153 b125 k125 .char (33 : Int32) [(.int 97), (.int 112), (.int 112), (.int 108), (.int 105), (.int 99), (.int 97), (.int 116), (.int 105), (.int 111), (.int 110), (.int 47), (.int 120), (.int 45), (.int 0), (.int 0), (.int 0), (.int 0), (.int 0), (.int 0), (.int 0), (.int 0), (.int 0), (.int 0), (.int 0), (.int 0), (.int 0), (.int 0), (.int 0), (.int 0), (.int 0), (.int 0), (.int 0)] (.int 0) := Arv.set Ar152 q152 S152 Nn152 H152 G152 (own_fitc (show ¬ (45 : Int32) < 0 ∧ ¬ (65535 : Int32) < (45 : Int32) by decide)) W153 13 rfl (Nat.le_of_ble_eq_true rfl)
   have K153 := Keep.of_wr W153
   have N153 := Fr.snoc X153 N151 (by omega : @LE.le Nat _ n0 b125)
   have hs16_K153 : ∀ x ∈ ([b125] : List Addr), Safe Z EL1 T101.vm h151 x := sfS (Safe.arv hZ101.alike V151 (by decide)) (sf0)
   have cR16_K153 := cR15_K151.trans (CHr.keep K153 hs16_K153 cR15_K151.1)
   have sz16_K153 := K153.1
   obtain ⟨cl154, Ar154, q154, S154, Nn154, H154, G154⟩ := id V153
   obtain ⟨T155, h155, X155, e155, W155, st155⟩ := stC X153 hx hZ101 e153 Ar154 (j := (14 : Int32)) (inb_of S154 ⟨by decide, by decide⟩) (g := (mkF m 261 #[vI p1, vI p2, vI p3, vI p4, vR b101, vI (Int32.ofNat i), vI m6, vI (((p1.toUInt32 >>> ((2 : Int32) &&& 31).toUInt32).toInt32) &&& (3 : Int32)), vI c8, vI a9, vI a10, vI a11, vI a12, vI (p1 &&& (3 : Int32)), vI (smF c8 m6), .unset, .unset, .unset] [(.int 119), (.int 14), (.ref b125), (.ref b125)])) rfl rfl (hb hby at_261)
   rw [own_nc (show ¬ (119 : Int32) < 0 ∧ ¬ (65535 : Int32) < (119 : Int32) by decide)] at W155
   have V155 : Arv Z h155 b125 k125 .char (33 : Int32) [(.int 97), (.int 112), (.int 112), (.int 108), (.int 105), (.int 99), (.int 97), (.int 116), (.int 105), (.int 111), (.int 110), (.int 47), (.int 120), (.int 45), (.int 119), (.int 0), (.int 0), (.int 0), (.int 0), (.int 0), (.int 0), (.int 0), (.int 0), (.int 0), (.int 0), (.int 0), (.int 0), (.int 0), (.int 0), (.int 0), (.int 0), (.int 0), (.int 0)] (.int 0) := Arv.set Ar154 q154 S154 Nn154 H154 G154 (own_fitc (show ¬ (119 : Int32) < 0 ∧ ¬ (65535 : Int32) < (119 : Int32) by decide)) W155 14 rfl (Nat.le_of_ble_eq_true rfl)
   have K155 := Keep.of_wr W155
   have N155 := Fr.snoc X155 N153 (by omega : @LE.le Nat _ n0 b125)
   have hs17_K155 : ∀ x ∈ ([b125] : List Addr), Safe Z EL1 T101.vm h153 x := sfS (Safe.arv hZ101.alike V153 (by decide)) (sf0)
   have cR17_K155 := cR16_K153.trans (CHr.keep K155 hs17_K155 cR16_K153.1)
   have sz17_K155 := K155.1
   obtain ⟨cl156, Ar156, q156, S156, Nn156, H156, G156⟩ := id V155
   obtain ⟨T157, h157, X157, e157, W157, st157⟩ := stC X155 hx hZ101 e155 Ar156 (j := (15 : Int32)) (inb_of S156 ⟨by decide, by decide⟩) (g := (mkF m 267 #[vI p1, vI p2, vI p3, vI p4, vR b101, vI (Int32.ofNat i), vI m6, vI (((p1.toUInt32 >>> ((2 : Int32) &&& 31).toUInt32).toInt32) &&& (3 : Int32)), vI c8, vI a9, vI a10, vI a11, vI a12, vI (p1 &&& (3 : Int32)), vI (smF c8 m6), .unset, .unset, .unset] [(.int 119), (.int 15), (.ref b125), (.ref b125)])) rfl rfl (hb hby at_267)
   rw [own_nc (show ¬ (119 : Int32) < 0 ∧ ¬ (65535 : Int32) < (119 : Int32) by decide)] at W157
   have V157 : Arv Z h157 b125 k125 .char (33 : Int32) [(.int 97), (.int 112), (.int 112), (.int 108), (.int 105), (.int 99), (.int 97), (.int 116), (.int 105), (.int 111), (.int 110), (.int 47), (.int 120), (.int 45), (.int 119), (.int 119), (.int 0), (.int 0), (.int 0), (.int 0), (.int 0), (.int 0), (.int 0), (.int 0), (.int 0), (.int 0), (.int 0), (.int 0), (.int 0), (.int 0), (.int 0), (.int 0), (.int 0)] (.int 0) := Arv.set Ar156 q156 S156 Nn156 H156 G156 (own_fitc (show ¬ (119 : Int32) < 0 ∧ ¬ (65535 : Int32) < (119 : Int32) by decide)) W157 15 rfl (Nat.le_of_ble_eq_true rfl)
   have K157 := Keep.of_wr W157
   have N157 := Fr.snoc X157 N155 (by omega : @LE.le Nat _ n0 b125)
   have hs18_K157 : ∀ x ∈ ([b125] : List Addr), Safe Z EL1 T101.vm h155 x := sfS (Safe.arv hZ101.alike V155 (by decide)) (sf0)
   have cR18_K157 := cR17_K155.trans (CHr.keep K157 hs18_K157 cR17_K155.1)
   have sz18_K157 := K157.1
   obtain ⟨cl158, Ar158, q158, S158, Nn158, H158, G158⟩ := id V157
   obtain ⟨T159, h159, X159, e159, W159, st159⟩ := stC X157 hx hZ101 e157 Ar158 (j := (16 : Int32)) (inb_of S158 ⟨by decide, by decide⟩) (g := (mkF m 273 #[vI p1, vI p2, vI p3, vI p4, vR b101, vI (Int32.ofNat i), vI m6, vI (((p1.toUInt32 >>> ((2 : Int32) &&& 31).toUInt32).toInt32) &&& (3 : Int32)), vI c8, vI a9, vI a10, vI a11, vI a12, vI (p1 &&& (3 : Int32)), vI (smF c8 m6), .unset, .unset, .unset] [(.int 119), (.int 16), (.ref b125), (.ref b125)])) rfl rfl (hb hby at_273)
   rw [own_nc (show ¬ (119 : Int32) < 0 ∧ ¬ (65535 : Int32) < (119 : Int32) by decide)] at W159
   have V159 : Arv Z h159 b125 k125 .char (33 : Int32) [(.int 97), (.int 112), (.int 112), (.int 108), (.int 105), (.int 99), (.int 97), (.int 116), (.int 105), (.int 111), (.int 110), (.int 47), (.int 120), (.int 45), (.int 119), (.int 119), (.int 119), (.int 0), (.int 0), (.int 0), (.int 0), (.int 0), (.int 0), (.int 0), (.int 0), (.int 0), (.int 0), (.int 0), (.int 0), (.int 0), (.int 0), (.int 0), (.int 0)] (.int 0) := Arv.set Ar158 q158 S158 Nn158 H158 G158 (own_fitc (show ¬ (119 : Int32) < 0 ∧ ¬ (65535 : Int32) < (119 : Int32) by decide)) W159 16 rfl (Nat.le_of_ble_eq_true rfl)
   have K159 := Keep.of_wr W159
   have N159 := Fr.snoc X159 N157 (by omega : @LE.le Nat _ n0 b125)
   have hs19_K159 : ∀ x ∈ ([b125] : List Addr), Safe Z EL1 T101.vm h157 x := sfS (Safe.arv hZ101.alike V157 (by decide)) (sf0)
   have cR19_K159 := cR18_K157.trans (CHr.keep K159 hs19_K159 cR18_K157.1)
   have sz19_K159 := K159.1
   obtain ⟨cl160, Ar160, q160, S160, Nn160, H160, G160⟩ := id V159
   obtain ⟨T161, h161, X161, e161, W161, st161⟩ := stC X159 hx hZ101 e159 Ar160 (j := (17 : Int32)) (inb_of S160 ⟨by decide, by decide⟩) (g := (mkF m 279 #[vI p1, vI p2, vI p3, vI p4, vR b101, vI (Int32.ofNat i), vI m6, vI (((p1.toUInt32 >>> ((2 : Int32) &&& 31).toUInt32).toInt32) &&& (3 : Int32)), vI c8, vI a9, vI a10, vI a11, vI a12, vI (p1 &&& (3 : Int32)), vI (smF c8 m6), .unset, .unset, .unset] [(.int 45), (.int 17), (.ref b125), (.ref b125)])) rfl rfl (hb hby at_279)
   rw [own_nc (show ¬ (45 : Int32) < 0 ∧ ¬ (65535 : Int32) < (45 : Int32) by decide)] at W161
   have V161 : Arv Z h161 b125 k125 .char (33 : Int32) [(.int 97), (.int 112), (.int 112), (.int 108), (.int 105), (.int 99), (.int 97), (.int 116), (.int 105), (.int 111), (.int 110), (.int 47), (.int 120), (.int 45), (.int 119), (.int 119), (.int 119), (.int 45), (.int 0), (.int 0), (.int 0), (.int 0), (.int 0), (.int 0), (.int 0), (.int 0), (.int 0), (.int 0), (.int 0), (.int 0), (.int 0), (.int 0), (.int 0)] (.int 0) := Arv.set Ar160 q160 S160 Nn160 H160 G160 (own_fitc (show ¬ (45 : Int32) < 0 ∧ ¬ (65535 : Int32) < (45 : Int32) by decide)) W161 17 rfl (Nat.le_of_ble_eq_true rfl)
   have K161 := Keep.of_wr W161
   have N161 := Fr.snoc X161 N159 (by omega : @LE.le Nat _ n0 b125)
   have hs20_K161 : ∀ x ∈ ([b125] : List Addr), Safe Z EL1 T101.vm h159 x := sfS (Safe.arv hZ101.alike V159 (by decide)) (sf0)
   have cR20_K161 := cR19_K159.trans (CHr.keep K161 hs20_K161 cR19_K159.1)
   have sz20_K161 := K161.1
   obtain ⟨cl162, Ar162, q162, S162, Nn162, H162, G162⟩ := id V161
   obtain ⟨T163, h163, X163, e163, W163, st163⟩ := stC X161 hx hZ101 e161 Ar162 (j := (18 : Int32)) (inb_of S162 ⟨by decide, by decide⟩) (g := (mkF m 285 #[vI p1, vI p2, vI p3, vI p4, vR b101, vI (Int32.ofNat i), vI m6, vI (((p1.toUInt32 >>> ((2 : Int32) &&& 31).toUInt32).toInt32) &&& (3 : Int32)), vI c8, vI a9, vI a10, vI a11, vI a12, vI (p1 &&& (3 : Int32)), vI (smF c8 m6), .unset, .unset, .unset] [(.int 102), (.int 18), (.ref b125), (.ref b125)])) rfl rfl (hb hby at_285)
   rw [own_nc (show ¬ (102 : Int32) < 0 ∧ ¬ (65535 : Int32) < (102 : Int32) by decide)] at W163
   have V163 : Arv Z h163 b125 k125 .char (33 : Int32) [(.int 97), (.int 112), (.int 112), (.int 108), (.int 105), (.int 99), (.int 97), (.int 116), (.int 105), (.int 111), (.int 110), (.int 47), (.int 120), (.int 45), (.int 119), (.int 119), (.int 119), (.int 45), (.int 102), (.int 0), (.int 0), (.int 0), (.int 0), (.int 0), (.int 0), (.int 0), (.int 0), (.int 0), (.int 0), (.int 0), (.int 0), (.int 0), (.int 0)] (.int 0) := Arv.set Ar162 q162 S162 Nn162 H162 G162 (own_fitc (show ¬ (102 : Int32) < 0 ∧ ¬ (65535 : Int32) < (102 : Int32) by decide)) W163 18 rfl (Nat.le_of_ble_eq_true rfl)
   have K163 := Keep.of_wr W163
   have N163 := Fr.snoc X163 N161 (by omega : @LE.le Nat _ n0 b125)
   have hs21_K163 : ∀ x ∈ ([b125] : List Addr), Safe Z EL1 T101.vm h161 x := sfS (Safe.arv hZ101.alike V161 (by decide)) (sf0)
   have cR21_K163 := cR20_K161.trans (CHr.keep K163 hs21_K163 cR20_K161.1)
   have sz21_K163 := K163.1
   obtain ⟨cl164, Ar164, q164, S164, Nn164, H164, G164⟩ := id V163
   obtain ⟨T165, h165, X165, e165, W165, st165⟩ := stC X163 hx hZ101 e163 Ar164 (j := (19 : Int32)) (inb_of S164 ⟨by decide, by decide⟩) (g := (mkF m 291 #[vI p1, vI p2, vI p3, vI p4, vR b101, vI (Int32.ofNat i), vI m6, vI (((p1.toUInt32 >>> ((2 : Int32) &&& 31).toUInt32).toInt32) &&& (3 : Int32)), vI c8, vI a9, vI a10, vI a11, vI a12, vI (p1 &&& (3 : Int32)), vI (smF c8 m6), .unset, .unset, .unset] [(.int 111), (.int 19), (.ref b125), (.ref b125)])) rfl rfl (hb hby at_291)
   rw [own_nc (show ¬ (111 : Int32) < 0 ∧ ¬ (65535 : Int32) < (111 : Int32) by decide)] at W165
   have V165 : Arv Z h165 b125 k125 .char (33 : Int32) [(.int 97), (.int 112), (.int 112), (.int 108), (.int 105), (.int 99), (.int 97), (.int 116), (.int 105), (.int 111), (.int 110), (.int 47), (.int 120), (.int 45), (.int 119), (.int 119), (.int 119), (.int 45), (.int 102), (.int 111), (.int 0), (.int 0), (.int 0), (.int 0), (.int 0), (.int 0), (.int 0), (.int 0), (.int 0), (.int 0), (.int 0), (.int 0), (.int 0)] (.int 0) := Arv.set Ar164 q164 S164 Nn164 H164 G164 (own_fitc (show ¬ (111 : Int32) < 0 ∧ ¬ (65535 : Int32) < (111 : Int32) by decide)) W165 19 rfl (Nat.le_of_ble_eq_true rfl)
   have K165 := Keep.of_wr W165
   have N165 := Fr.snoc X165 N163 (by omega : @LE.le Nat _ n0 b125)
   have hs22_K165 : ∀ x ∈ ([b125] : List Addr), Safe Z EL1 T101.vm h163 x := sfS (Safe.arv hZ101.alike V163 (by decide)) (sf0)
   have cR22_K165 := cR21_K163.trans (CHr.keep K165 hs22_K165 cR21_K163.1)
   have sz22_K165 := K165.1
   obtain ⟨cl166, Ar166, q166, S166, Nn166, H166, G166⟩ := id V165
   obtain ⟨T167, h167, X167, e167, W167, st167⟩ := stC X165 hx hZ101 e165 Ar166 (j := (20 : Int32)) (inb_of S166 ⟨by decide, by decide⟩) (g := (mkF m 297 #[vI p1, vI p2, vI p3, vI p4, vR b101, vI (Int32.ofNat i), vI m6, vI (((p1.toUInt32 >>> ((2 : Int32) &&& 31).toUInt32).toInt32) &&& (3 : Int32)), vI c8, vI a9, vI a10, vI a11, vI a12, vI (p1 &&& (3 : Int32)), vI (smF c8 m6), .unset, .unset, .unset] [(.int 114), (.int 20), (.ref b125), (.ref b125)])) rfl rfl (hb hby at_297)
   rw [own_nc (show ¬ (114 : Int32) < 0 ∧ ¬ (65535 : Int32) < (114 : Int32) by decide)] at W167
   have V167 : Arv Z h167 b125 k125 .char (33 : Int32) [(.int 97), (.int 112), (.int 112), (.int 108), (.int 105), (.int 99), (.int 97), (.int 116), (.int 105), (.int 111), (.int 110), (.int 47), (.int 120), (.int 45), (.int 119), (.int 119), (.int 119), (.int 45), (.int 102), (.int 111), (.int 114), (.int 0), (.int 0), (.int 0), (.int 0), (.int 0), (.int 0), (.int 0), (.int 0), (.int 0), (.int 0), (.int 0), (.int 0)] (.int 0) := Arv.set Ar166 q166 S166 Nn166 H166 G166 (own_fitc (show ¬ (114 : Int32) < 0 ∧ ¬ (65535 : Int32) < (114 : Int32) by decide)) W167 20 rfl (Nat.le_of_ble_eq_true rfl)
   have K167 := Keep.of_wr W167
   have N167 := Fr.snoc X167 N165 (by omega : @LE.le Nat _ n0 b125)
   have hs23_K167 : ∀ x ∈ ([b125] : List Addr), Safe Z EL1 T101.vm h165 x := sfS (Safe.arv hZ101.alike V165 (by decide)) (sf0)
   have cR23_K167 := cR22_K165.trans (CHr.keep K167 hs23_K167 cR22_K165.1)
   have sz23_K167 := K167.1
   obtain ⟨cl168, Ar168, q168, S168, Nn168, H168, G168⟩ := id V167
   obtain ⟨T169, h169, X169, e169, W169, st169⟩ := stC X167 hx hZ101 e167 Ar168 (j := (21 : Int32)) (inb_of S168 ⟨by decide, by decide⟩) (g := (mkF m 303 #[vI p1, vI p2, vI p3, vI p4, vR b101, vI (Int32.ofNat i), vI m6, vI (((p1.toUInt32 >>> ((2 : Int32) &&& 31).toUInt32).toInt32) &&& (3 : Int32)), vI c8, vI a9, vI a10, vI a11, vI a12, vI (p1 &&& (3 : Int32)), vI (smF c8 m6), .unset, .unset, .unset] [(.int 109), (.int 21), (.ref b125), (.ref b125)])) rfl rfl (hb hby at_303)
   rw [own_nc (show ¬ (109 : Int32) < 0 ∧ ¬ (65535 : Int32) < (109 : Int32) by decide)] at W169
   have V169 : Arv Z h169 b125 k125 .char (33 : Int32) [(.int 97), (.int 112), (.int 112), (.int 108), (.int 105), (.int 99), (.int 97), (.int 116), (.int 105), (.int 111), (.int 110), (.int 47), (.int 120), (.int 45), (.int 119), (.int 119), (.int 119), (.int 45), (.int 102), (.int 111), (.int 114), (.int 109), (.int 0), (.int 0), (.int 0), (.int 0), (.int 0), (.int 0), (.int 0), (.int 0), (.int 0), (.int 0), (.int 0)] (.int 0) := Arv.set Ar168 q168 S168 Nn168 H168 G168 (own_fitc (show ¬ (109 : Int32) < 0 ∧ ¬ (65535 : Int32) < (109 : Int32) by decide)) W169 21 rfl (Nat.le_of_ble_eq_true rfl)
   have K169 := Keep.of_wr W169
   have N169 := Fr.snoc X169 N167 (by omega : @LE.le Nat _ n0 b125)
   have hs24_K169 : ∀ x ∈ ([b125] : List Addr), Safe Z EL1 T101.vm h167 x := sfS (Safe.arv hZ101.alike V167 (by decide)) (sf0)
   have cR24_K169 := cR23_K167.trans (CHr.keep K169 hs24_K169 cR23_K167.1)
   have sz24_K169 := K169.1
   obtain ⟨cl170, Ar170, q170, S170, Nn170, H170, G170⟩ := id V169
   obtain ⟨T171, h171, X171, e171, W171, st171⟩ := stC X169 hx hZ101 e169 Ar170 (j := (22 : Int32)) (inb_of S170 ⟨by decide, by decide⟩) (g := (mkF m 309 #[vI p1, vI p2, vI p3, vI p4, vR b101, vI (Int32.ofNat i), vI m6, vI (((p1.toUInt32 >>> ((2 : Int32) &&& 31).toUInt32).toInt32) &&& (3 : Int32)), vI c8, vI a9, vI a10, vI a11, vI a12, vI (p1 &&& (3 : Int32)), vI (smF c8 m6), .unset, .unset, .unset] [(.int 45), (.int 22), (.ref b125), (.ref b125)])) rfl rfl (hb hby at_309)
   rw [own_nc (show ¬ (45 : Int32) < 0 ∧ ¬ (65535 : Int32) < (45 : Int32) by decide)] at W171
   have V171 : Arv Z h171 b125 k125 .char (33 : Int32) [(.int 97), (.int 112), (.int 112), (.int 108), (.int 105), (.int 99), (.int 97), (.int 116), (.int 105), (.int 111), (.int 110), (.int 47), (.int 120), (.int 45), (.int 119), (.int 119), (.int 119), (.int 45), (.int 102), (.int 111), (.int 114), (.int 109), (.int 45), (.int 0), (.int 0), (.int 0), (.int 0), (.int 0), (.int 0), (.int 0), (.int 0), (.int 0), (.int 0)] (.int 0) := Arv.set Ar170 q170 S170 Nn170 H170 G170 (own_fitc (show ¬ (45 : Int32) < 0 ∧ ¬ (65535 : Int32) < (45 : Int32) by decide)) W171 22 rfl (Nat.le_of_ble_eq_true rfl)
   have K171 := Keep.of_wr W171
   have N171 := Fr.snoc X171 N169 (by omega : @LE.le Nat _ n0 b125)
   have hs25_K171 : ∀ x ∈ ([b125] : List Addr), Safe Z EL1 T101.vm h169 x := sfS (Safe.arv hZ101.alike V169 (by decide)) (sf0)
   have cR25_K171 := cR24_K169.trans (CHr.keep K171 hs25_K171 cR24_K169.1)
   have sz25_K171 := K171.1
   obtain ⟨cl172, Ar172, q172, S172, Nn172, H172, G172⟩ := id V171
   obtain ⟨T173, h173, X173, e173, W173, st173⟩ := stC X171 hx hZ101 e171 Ar172 (j := (23 : Int32)) (inb_of S172 ⟨by decide, by decide⟩) (g := (mkF m 315 #[vI p1, vI p2, vI p3, vI p4, vR b101, vI (Int32.ofNat i), vI m6, vI (((p1.toUInt32 >>> ((2 : Int32) &&& 31).toUInt32).toInt32) &&& (3 : Int32)), vI c8, vI a9, vI a10, vI a11, vI a12, vI (p1 &&& (3 : Int32)), vI (smF c8 m6), .unset, .unset, .unset] [(.int 117), (.int 23), (.ref b125), (.ref b125)])) rfl rfl (hb hby at_315)
   rw [own_nc (show ¬ (117 : Int32) < 0 ∧ ¬ (65535 : Int32) < (117 : Int32) by decide)] at W173
   have V173 : Arv Z h173 b125 k125 .char (33 : Int32) [(.int 97), (.int 112), (.int 112), (.int 108), (.int 105), (.int 99), (.int 97), (.int 116), (.int 105), (.int 111), (.int 110), (.int 47), (.int 120), (.int 45), (.int 119), (.int 119), (.int 119), (.int 45), (.int 102), (.int 111), (.int 114), (.int 109), (.int 45), (.int 117), (.int 0), (.int 0), (.int 0), (.int 0), (.int 0), (.int 0), (.int 0), (.int 0), (.int 0)] (.int 0) := Arv.set Ar172 q172 S172 Nn172 H172 G172 (own_fitc (show ¬ (117 : Int32) < 0 ∧ ¬ (65535 : Int32) < (117 : Int32) by decide)) W173 23 rfl (Nat.le_of_ble_eq_true rfl)
   have K173 := Keep.of_wr W173
   have N173 := Fr.snoc X173 N171 (by omega : @LE.le Nat _ n0 b125)
   have hs26_K173 : ∀ x ∈ ([b125] : List Addr), Safe Z EL1 T101.vm h171 x := sfS (Safe.arv hZ101.alike V171 (by decide)) (sf0)
   have cR26_K173 := cR25_K171.trans (CHr.keep K173 hs26_K173 cR25_K171.1)
   have sz26_K173 := K173.1
   obtain ⟨cl174, Ar174, q174, S174, Nn174, H174, G174⟩ := id V173
   obtain ⟨T175, h175, X175, e175, W175, st175⟩ := stC X173 hx hZ101 e173 Ar174 (j := (24 : Int32)) (inb_of S174 ⟨by decide, by decide⟩) (g := (mkF m 321 #[vI p1, vI p2, vI p3, vI p4, vR b101, vI (Int32.ofNat i), vI m6, vI (((p1.toUInt32 >>> ((2 : Int32) &&& 31).toUInt32).toInt32) &&& (3 : Int32)), vI c8, vI a9, vI a10, vI a11, vI a12, vI (p1 &&& (3 : Int32)), vI (smF c8 m6), .unset, .unset, .unset] [(.int 114), (.int 24), (.ref b125), (.ref b125)])) rfl rfl (hb hby at_321)
   rw [own_nc (show ¬ (114 : Int32) < 0 ∧ ¬ (65535 : Int32) < (114 : Int32) by decide)] at W175
   have V175 : Arv Z h175 b125 k125 .char (33 : Int32) [(.int 97), (.int 112), (.int 112), (.int 108), (.int 105), (.int 99), (.int 97), (.int 116), (.int 105), (.int 111), (.int 110), (.int 47), (.int 120), (.int 45), (.int 119), (.int 119), (.int 119), (.int 45), (.int 102), (.int 111), (.int 114), (.int 109), (.int 45), (.int 117), (.int 114), (.int 0), (.int 0), (.int 0), (.int 0), (.int 0), (.int 0), (.int 0), (.int 0)] (.int 0) := Arv.set Ar174 q174 S174 Nn174 H174 G174 (own_fitc (show ¬ (114 : Int32) < 0 ∧ ¬ (65535 : Int32) < (114 : Int32) by decide)) W175 24 rfl (Nat.le_of_ble_eq_true rfl)
   have K175 := Keep.of_wr W175
   have N175 := Fr.snoc X175 N173 (by omega : @LE.le Nat _ n0 b125)
   have hs27_K175 : ∀ x ∈ ([b125] : List Addr), Safe Z EL1 T101.vm h173 x := sfS (Safe.arv hZ101.alike V173 (by decide)) (sf0)
   have cR27_K175 := cR26_K173.trans (CHr.keep K175 hs27_K175 cR26_K173.1)
   have sz27_K175 := K175.1
   obtain ⟨cl176, Ar176, q176, S176, Nn176, H176, G176⟩ := id V175
   obtain ⟨T177, h177, X177, e177, W177, st177⟩ := stC X175 hx hZ101 e175 Ar176 (j := (25 : Int32)) (inb_of S176 ⟨by decide, by decide⟩) (g := (mkF m 327 #[vI p1, vI p2, vI p3, vI p4, vR b101, vI (Int32.ofNat i), vI m6, vI (((p1.toUInt32 >>> ((2 : Int32) &&& 31).toUInt32).toInt32) &&& (3 : Int32)), vI c8, vI a9, vI a10, vI a11, vI a12, vI (p1 &&& (3 : Int32)), vI (smF c8 m6), .unset, .unset, .unset] [(.int 108), (.int 25), (.ref b125), (.ref b125)])) rfl rfl (hb hby at_327)
   rw [own_nc (show ¬ (108 : Int32) < 0 ∧ ¬ (65535 : Int32) < (108 : Int32) by decide)] at W177
   have V177 : Arv Z h177 b125 k125 .char (33 : Int32) [(.int 97), (.int 112), (.int 112), (.int 108), (.int 105), (.int 99), (.int 97), (.int 116), (.int 105), (.int 111), (.int 110), (.int 47), (.int 120), (.int 45), (.int 119), (.int 119), (.int 119), (.int 45), (.int 102), (.int 111), (.int 114), (.int 109), (.int 45), (.int 117), (.int 114), (.int 108), (.int 0), (.int 0), (.int 0), (.int 0), (.int 0), (.int 0), (.int 0)] (.int 0) := Arv.set Ar176 q176 S176 Nn176 H176 G176 (own_fitc (show ¬ (108 : Int32) < 0 ∧ ¬ (65535 : Int32) < (108 : Int32) by decide)) W177 25 rfl (Nat.le_of_ble_eq_true rfl)
   have K177 := Keep.of_wr W177
   have N177 := Fr.snoc X177 N175 (by omega : @LE.le Nat _ n0 b125)
   have hs28_K177 : ∀ x ∈ ([b125] : List Addr), Safe Z EL1 T101.vm h175 x := sfS (Safe.arv hZ101.alike V175 (by decide)) (sf0)
   have cR28_K177 := cR27_K175.trans (CHr.keep K177 hs28_K177 cR27_K175.1)
   have sz28_K177 := K177.1
   obtain ⟨cl178, Ar178, q178, S178, Nn178, H178, G178⟩ := id V177
   obtain ⟨T179, h179, X179, e179, W179, st179⟩ := stC X177 hx hZ101 e177 Ar178 (j := (26 : Int32)) (inb_of S178 ⟨by decide, by decide⟩) (g := (mkF m 333 #[vI p1, vI p2, vI p3, vI p4, vR b101, vI (Int32.ofNat i), vI m6, vI (((p1.toUInt32 >>> ((2 : Int32) &&& 31).toUInt32).toInt32) &&& (3 : Int32)), vI c8, vI a9, vI a10, vI a11, vI a12, vI (p1 &&& (3 : Int32)), vI (smF c8 m6), .unset, .unset, .unset] [(.int 101), (.int 26), (.ref b125), (.ref b125)])) rfl rfl (hb hby at_333)
   rw [own_nc (show ¬ (101 : Int32) < 0 ∧ ¬ (65535 : Int32) < (101 : Int32) by decide)] at W179
   have V179 : Arv Z h179 b125 k125 .char (33 : Int32) [(.int 97), (.int 112), (.int 112), (.int 108), (.int 105), (.int 99), (.int 97), (.int 116), (.int 105), (.int 111), (.int 110), (.int 47), (.int 120), (.int 45), (.int 119), (.int 119), (.int 119), (.int 45), (.int 102), (.int 111), (.int 114), (.int 109), (.int 45), (.int 117), (.int 114), (.int 108), (.int 101), (.int 0), (.int 0), (.int 0), (.int 0), (.int 0), (.int 0)] (.int 0) := Arv.set Ar178 q178 S178 Nn178 H178 G178 (own_fitc (show ¬ (101 : Int32) < 0 ∧ ¬ (65535 : Int32) < (101 : Int32) by decide)) W179 26 rfl (Nat.le_of_ble_eq_true rfl)
   have K179 := Keep.of_wr W179
   have N179 := Fr.snoc X179 N177 (by omega : @LE.le Nat _ n0 b125)
   have hs29_K179 : ∀ x ∈ ([b125] : List Addr), Safe Z EL1 T101.vm h177 x := sfS (Safe.arv hZ101.alike V177 (by decide)) (sf0)
   have cR29_K179 := cR28_K177.trans (CHr.keep K179 hs29_K179 cR28_K177.1)
   have sz29_K179 := K179.1
   obtain ⟨cl180, Ar180, q180, S180, Nn180, H180, G180⟩ := id V179
   obtain ⟨T181, h181, X181, e181, W181, st181⟩ := stC X179 hx hZ101 e179 Ar180 (j := (27 : Int32)) (inb_of S180 ⟨by decide, by decide⟩) (g := (mkF m 339 #[vI p1, vI p2, vI p3, vI p4, vR b101, vI (Int32.ofNat i), vI m6, vI (((p1.toUInt32 >>> ((2 : Int32) &&& 31).toUInt32).toInt32) &&& (3 : Int32)), vI c8, vI a9, vI a10, vI a11, vI a12, vI (p1 &&& (3 : Int32)), vI (smF c8 m6), .unset, .unset, .unset] [(.int 110), (.int 27), (.ref b125), (.ref b125)])) rfl rfl (hb hby at_339)
   rw [own_nc (show ¬ (110 : Int32) < 0 ∧ ¬ (65535 : Int32) < (110 : Int32) by decide)] at W181
   have V181 : Arv Z h181 b125 k125 .char (33 : Int32) [(.int 97), (.int 112), (.int 112), (.int 108), (.int 105), (.int 99), (.int 97), (.int 116), (.int 105), (.int 111), (.int 110), (.int 47), (.int 120), (.int 45), (.int 119), (.int 119), (.int 119), (.int 45), (.int 102), (.int 111), (.int 114), (.int 109), (.int 45), (.int 117), (.int 114), (.int 108), (.int 101), (.int 110), (.int 0), (.int 0), (.int 0), (.int 0), (.int 0)] (.int 0) := Arv.set Ar180 q180 S180 Nn180 H180 G180 (own_fitc (show ¬ (110 : Int32) < 0 ∧ ¬ (65535 : Int32) < (110 : Int32) by decide)) W181 27 rfl (Nat.le_of_ble_eq_true rfl)
   have K181 := Keep.of_wr W181
   have N181 := Fr.snoc X181 N179 (by omega : @LE.le Nat _ n0 b125)
   have hs30_K181 : ∀ x ∈ ([b125] : List Addr), Safe Z EL1 T101.vm h179 x := sfS (Safe.arv hZ101.alike V179 (by decide)) (sf0)
   have cR30_K181 := cR29_K179.trans (CHr.keep K181 hs30_K181 cR29_K179.1)
   have sz30_K181 := K181.1
   obtain ⟨cl182, Ar182, q182, S182, Nn182, H182, G182⟩ := id V181
   obtain ⟨T183, h183, X183, e183, W183, st183⟩ := stC X181 hx hZ101 e181 Ar182 (j := (28 : Int32)) (inb_of S182 ⟨by decide, by decide⟩) (g := (mkF m 345 #[vI p1, vI p2, vI p3, vI p4, vR b101, vI (Int32.ofNat i), vI m6, vI (((p1.toUInt32 >>> ((2 : Int32) &&& 31).toUInt32).toInt32) &&& (3 : Int32)), vI c8, vI a9, vI a10, vI a11, vI a12, vI (p1 &&& (3 : Int32)), vI (smF c8 m6), .unset, .unset, .unset] [(.int 99), (.int 28), (.ref b125), (.ref b125)])) rfl rfl (hb hby at_345)
   rw [own_nc (show ¬ (99 : Int32) < 0 ∧ ¬ (65535 : Int32) < (99 : Int32) by decide)] at W183
   have V183 : Arv Z h183 b125 k125 .char (33 : Int32) [(.int 97), (.int 112), (.int 112), (.int 108), (.int 105), (.int 99), (.int 97), (.int 116), (.int 105), (.int 111), (.int 110), (.int 47), (.int 120), (.int 45), (.int 119), (.int 119), (.int 119), (.int 45), (.int 102), (.int 111), (.int 114), (.int 109), (.int 45), (.int 117), (.int 114), (.int 108), (.int 101), (.int 110), (.int 99), (.int 0), (.int 0), (.int 0), (.int 0)] (.int 0) := Arv.set Ar182 q182 S182 Nn182 H182 G182 (own_fitc (show ¬ (99 : Int32) < 0 ∧ ¬ (65535 : Int32) < (99 : Int32) by decide)) W183 28 rfl (Nat.le_of_ble_eq_true rfl)
   have K183 := Keep.of_wr W183
   have N183 := Fr.snoc X183 N181 (by omega : @LE.le Nat _ n0 b125)
   have hs31_K183 : ∀ x ∈ ([b125] : List Addr), Safe Z EL1 T101.vm h181 x := sfS (Safe.arv hZ101.alike V181 (by decide)) (sf0)
   have cR31_K183 := cR30_K181.trans (CHr.keep K183 hs31_K183 cR30_K181.1)
   have sz31_K183 := K183.1
   obtain ⟨cl184, Ar184, q184, S184, Nn184, H184, G184⟩ := id V183
   obtain ⟨T185, h185, X185, e185, W185, st185⟩ := stC X183 hx hZ101 e183 Ar184 (j := (29 : Int32)) (inb_of S184 ⟨by decide, by decide⟩) (g := (mkF m 351 #[vI p1, vI p2, vI p3, vI p4, vR b101, vI (Int32.ofNat i), vI m6, vI (((p1.toUInt32 >>> ((2 : Int32) &&& 31).toUInt32).toInt32) &&& (3 : Int32)), vI c8, vI a9, vI a10, vI a11, vI a12, vI (p1 &&& (3 : Int32)), vI (smF c8 m6), .unset, .unset, .unset] [(.int 111), (.int 29), (.ref b125), (.ref b125)])) rfl rfl (hb hby at_351)
   rw [own_nc (show ¬ (111 : Int32) < 0 ∧ ¬ (65535 : Int32) < (111 : Int32) by decide)] at W185
   have V185 : Arv Z h185 b125 k125 .char (33 : Int32) [(.int 97), (.int 112), (.int 112), (.int 108), (.int 105), (.int 99), (.int 97), (.int 116), (.int 105), (.int 111), (.int 110), (.int 47), (.int 120), (.int 45), (.int 119), (.int 119), (.int 119), (.int 45), (.int 102), (.int 111), (.int 114), (.int 109), (.int 45), (.int 117), (.int 114), (.int 108), (.int 101), (.int 110), (.int 99), (.int 111), (.int 0), (.int 0), (.int 0)] (.int 0) := Arv.set Ar184 q184 S184 Nn184 H184 G184 (own_fitc (show ¬ (111 : Int32) < 0 ∧ ¬ (65535 : Int32) < (111 : Int32) by decide)) W185 29 rfl (Nat.le_of_ble_eq_true rfl)
   have K185 := Keep.of_wr W185
   have N185 := Fr.snoc X185 N183 (by omega : @LE.le Nat _ n0 b125)
   have hs32_K185 : ∀ x ∈ ([b125] : List Addr), Safe Z EL1 T101.vm h183 x := sfS (Safe.arv hZ101.alike V183 (by decide)) (sf0)
   have cR32_K185 := cR31_K183.trans (CHr.keep K185 hs32_K185 cR31_K183.1)
   have sz32_K185 := K185.1
   obtain ⟨cl186, Ar186, q186, S186, Nn186, H186, G186⟩ := id V185
   obtain ⟨T187, h187, X187, e187, W187, st187⟩ := stC X185 hx hZ101 e185 Ar186 (j := (30 : Int32)) (inb_of S186 ⟨by decide, by decide⟩) (g := (mkF m 357 #[vI p1, vI p2, vI p3, vI p4, vR b101, vI (Int32.ofNat i), vI m6, vI (((p1.toUInt32 >>> ((2 : Int32) &&& 31).toUInt32).toInt32) &&& (3 : Int32)), vI c8, vI a9, vI a10, vI a11, vI a12, vI (p1 &&& (3 : Int32)), vI (smF c8 m6), .unset, .unset, .unset] [(.int 100), (.int 30), (.ref b125), (.ref b125)])) rfl rfl (hb hby at_357)
   rw [own_nc (show ¬ (100 : Int32) < 0 ∧ ¬ (65535 : Int32) < (100 : Int32) by decide)] at W187
   have V187 : Arv Z h187 b125 k125 .char (33 : Int32) [(.int 97), (.int 112), (.int 112), (.int 108), (.int 105), (.int 99), (.int 97), (.int 116), (.int 105), (.int 111), (.int 110), (.int 47), (.int 120), (.int 45), (.int 119), (.int 119), (.int 119), (.int 45), (.int 102), (.int 111), (.int 114), (.int 109), (.int 45), (.int 117), (.int 114), (.int 108), (.int 101), (.int 110), (.int 99), (.int 111), (.int 100), (.int 0), (.int 0)] (.int 0) := Arv.set Ar186 q186 S186 Nn186 H186 G186 (own_fitc (show ¬ (100 : Int32) < 0 ∧ ¬ (65535 : Int32) < (100 : Int32) by decide)) W187 30 rfl (Nat.le_of_ble_eq_true rfl)
   have K187 := Keep.of_wr W187
   have N187 := Fr.snoc X187 N185 (by omega : @LE.le Nat _ n0 b125)
   have hs33_K187 : ∀ x ∈ ([b125] : List Addr), Safe Z EL1 T101.vm h185 x := sfS (Safe.arv hZ101.alike V185 (by decide)) (sf0)
   have cR33_K187 := cR32_K185.trans (CHr.keep K187 hs33_K187 cR32_K185.1)
   have sz33_K187 := K187.1
   obtain ⟨cl188, Ar188, q188, S188, Nn188, H188, G188⟩ := id V187
   obtain ⟨T189, h189, X189, e189, W189, st189⟩ := stC X187 hx hZ101 e187 Ar188 (j := (31 : Int32)) (inb_of S188 ⟨by decide, by decide⟩) (g := (mkF m 363 #[vI p1, vI p2, vI p3, vI p4, vR b101, vI (Int32.ofNat i), vI m6, vI (((p1.toUInt32 >>> ((2 : Int32) &&& 31).toUInt32).toInt32) &&& (3 : Int32)), vI c8, vI a9, vI a10, vI a11, vI a12, vI (p1 &&& (3 : Int32)), vI (smF c8 m6), .unset, .unset, .unset] [(.int 101), (.int 31), (.ref b125), (.ref b125)])) rfl rfl (hb hby at_363)
   rw [own_nc (show ¬ (101 : Int32) < 0 ∧ ¬ (65535 : Int32) < (101 : Int32) by decide)] at W189
   have V189 : Arv Z h189 b125 k125 .char (33 : Int32) [(.int 97), (.int 112), (.int 112), (.int 108), (.int 105), (.int 99), (.int 97), (.int 116), (.int 105), (.int 111), (.int 110), (.int 47), (.int 120), (.int 45), (.int 119), (.int 119), (.int 119), (.int 45), (.int 102), (.int 111), (.int 114), (.int 109), (.int 45), (.int 117), (.int 114), (.int 108), (.int 101), (.int 110), (.int 99), (.int 111), (.int 100), (.int 101), (.int 0)] (.int 0) := Arv.set Ar188 q188 S188 Nn188 H188 G188 (own_fitc (show ¬ (101 : Int32) < 0 ∧ ¬ (65535 : Int32) < (101 : Int32) by decide)) W189 31 rfl (Nat.le_of_ble_eq_true rfl)
   have K189 := Keep.of_wr W189
   have N189 := Fr.snoc X189 N187 (by omega : @LE.le Nat _ n0 b125)
   have hs34_K189 : ∀ x ∈ ([b125] : List Addr), Safe Z EL1 T101.vm h187 x := sfS (Safe.arv hZ101.alike V187 (by decide)) (sf0)
   have cR34_K189 := cR33_K187.trans (CHr.keep K189 hs34_K189 cR33_K187.1)
   have sz34_K189 := K189.1
   obtain ⟨cl190, Ar190, q190, S190, Nn190, H190, G190⟩ := id V189
   obtain ⟨T191, h191, X191, e191, W191, st191⟩ := stC X189 hx hZ101 e189 Ar190 (j := (32 : Int32)) (inb_of S190 ⟨by decide, by decide⟩) (g := (mkF m 369 #[vI p1, vI p2, vI p3, vI p4, vR b101, vI (Int32.ofNat i), vI m6, vI (((p1.toUInt32 >>> ((2 : Int32) &&& 31).toUInt32).toInt32) &&& (3 : Int32)), vI c8, vI a9, vI a10, vI a11, vI a12, vI (p1 &&& (3 : Int32)), vI (smF c8 m6), .unset, .unset, .unset] [(.int 100), (.int 32), (.ref b125), (.ref b125)])) rfl rfl (hb hby at_369)
   rw [own_nc (show ¬ (100 : Int32) < 0 ∧ ¬ (65535 : Int32) < (100 : Int32) by decide)] at W191
   have V191 : Arv Z h191 b125 k125 .char (33 : Int32) [(.int 97), (.int 112), (.int 112), (.int 108), (.int 105), (.int 99), (.int 97), (.int 116), (.int 105), (.int 111), (.int 110), (.int 47), (.int 120), (.int 45), (.int 119), (.int 119), (.int 119), (.int 45), (.int 102), (.int 111), (.int 114), (.int 109), (.int 45), (.int 117), (.int 114), (.int 108), (.int 101), (.int 110), (.int 99), (.int 111), (.int 100), (.int 101), (.int 100)] (.int 0) := Arv.set Ar190 q190 S190 Nn190 H190 G190 (own_fitc (show ¬ (100 : Int32) < 0 ∧ ¬ (65535 : Int32) < (100 : Int32) by decide)) W191 32 rfl (Nat.le_of_ble_eq_true rfl)
   have K191 := Keep.of_wr W191
   have N191 := Fr.snoc X191 N189 (by omega : @LE.le Nat _ n0 b125)
   have hs35_K191 : ∀ x ∈ ([b125] : List Addr), Safe Z EL1 T101.vm h189 x := sfS (Safe.arv hZ101.alike V189 (by decide)) (sf0)
   have cR35_K191 := cR34_K189.trans (CHr.keep K191 hs35_K191 cR34_K189.1)
   have sz35_K191 := K191.1
   have VL192 : Arv Z h191 b125 k125 .char (33 : Int32) (media.map Value.int) (.int 0) := V191
   obtain ⟨cl193, Ar193, q193, S193, Nn193, H193, G193⟩ := id VL192
   obtain ⟨T194, h194, X194, e194, W194, st194⟩ := stC X191 hx hZ101 e191 Ar193 (j := (Int32.ofNat i)) (inb_of S193 ⟨own_nn (by omega), (own_lt (j := 33) (by omega) (by decide)).mpr hi⟩) (g := (mkF m 378 #[vI p1, vI p2, vI p3, vI p4, vR b101, vI (Int32.ofNat i), vI m6, vI (((p1.toUInt32 >>> ((2 : Int32) &&& 31).toUInt32).toInt32) &&& (3 : Int32)), vI c8, vI a9, vI a10, vI a11, vI a12, vI (p1 &&& (3 : Int32)), vI (smF c8 m6), vR b125, .unset, .unset] [(.int c8), (.int (Int32.ofNat i)), (.ref b125)])) rfl rfl (hb hby at_378)
   rw [own_nc (own_c255 rc8)] at W194
   have V194 : Arv Z h194 b125 k125 .char (33 : Int32) ((media.map Value.int).set i (.int c8)) (.int 0) := Arv.set Ar193 q193 S193 Nn193 H193 G193 (own_fitc (own_c255 rc8)) W194 i (own_nat (by omega)) (by rw [List.length_map, own_medlen]; exact hi)
   have K194 := Keep.of_wr W194
   have N194 := Fr.snoc X194 N191 (by omega : @LE.le Nat _ n0 b125)
   rw [own_mset0 i c8] at V194
   have hs36_K194 : ∀ x ∈ ([b125] : List Addr), Safe Z EL1 T101.vm h191 x := sfS (Safe.arv hZ101.alike VL192 (by decide)) (sf0)
   have cR36_K194 := cR35_K191.trans (CHr.keep K194 hs36_K194 cR35_K191.1)
   have sz36_K194 := K194.1
   obtain ⟨T195, h195, X195, e195, E195, A195, D195, -, st195⟩ := newO X194 hx hZ101 hown101 (tw hw 35 rfl) (tw hw 2 rfl) (tw hw 1 rfl) e194 (g := (mkF m 379 #[vI p1, vI p2, vI p3, vI p4, vR b101, vI (Int32.ofNat i), vI m6, vI (((p1.toUInt32 >>> ((2 : Int32) &&& 31).toUInt32).toInt32) &&& (3 : Int32)), vI c8, vI a9, vI a10, vI a11, vI a12, vI (p1 &&& (3 : Int32)), vI (smF c8 m6), vR b125, .unset, .unset] [])) rfl (hb hby at_379) (by decide) (by decide)
   obtain ⟨b195, g195⟩ : ∃ z, z = h194.size := ⟨_, rfl⟩
   rw [← g195] at A195 D195 st195
   have lt195 : @LT.lt Nat _ b195 h195.size := A195.lt
   have K195 : Keep h194 h195 [] := (Keep.refl _ _).ext E195
   have cR37_K195 := cR36_K194.trans (CHr.keep K195 sf0 cR36_K194.1)
   have sz37_K195 := K195.1
   have F195_value : Fld Z h195 b195 "java/lang/String" "value" "[B" .null := D195 (Or.inr (tw hw 4 rfl)) (ty := (.array .byte)) (by decide)
   have F195_coder : Fld Z h195 b195 "java/lang/String" "coder" "B" (.int 0) := D195 (Or.inr (tw hw 5 rfl)) (ty := .byte) (by decide)
   have C197 := V194.keep K195 nin0
   have O198 : Old Z n0 h125 := O105.keep K125 all0
   have O199 : Old Z n0 h127 := O198.keep K127 (allS (by omega) (all0))
   have O200 : Old Z n0 h129 := O199.keep K129 (allS (by omega) (all0))
   have O201 : Old Z n0 h131 := O200.keep K131 (allS (by omega) (all0))
   have O202 : Old Z n0 h133 := O201.keep K133 (allS (by omega) (all0))
   have O203 : Old Z n0 h135 := O202.keep K135 (allS (by omega) (all0))
   have O204 : Old Z n0 h137 := O203.keep K137 (allS (by omega) (all0))
   have O205 : Old Z n0 h139 := O204.keep K139 (allS (by omega) (all0))
   have O206 : Old Z n0 h141 := O205.keep K141 (allS (by omega) (all0))
   have O207 : Old Z n0 h143 := O206.keep K143 (allS (by omega) (all0))
   have O208 : Old Z n0 h145 := O207.keep K145 (allS (by omega) (all0))
   have O209 : Old Z n0 h147 := O208.keep K147 (allS (by omega) (all0))
   have O210 : Old Z n0 h149 := O209.keep K149 (allS (by omega) (all0))
   have O211 : Old Z n0 h151 := O210.keep K151 (allS (by omega) (all0))
   have O212 : Old Z n0 h153 := O211.keep K153 (allS (by omega) (all0))
   have O213 : Old Z n0 h155 := O212.keep K155 (allS (by omega) (all0))
   have O214 : Old Z n0 h157 := O213.keep K157 (allS (by omega) (all0))
   have O215 : Old Z n0 h159 := O214.keep K159 (allS (by omega) (all0))
   have O216 : Old Z n0 h161 := O215.keep K161 (allS (by omega) (all0))
   have O217 : Old Z n0 h163 := O216.keep K163 (allS (by omega) (all0))
   have O218 : Old Z n0 h165 := O217.keep K165 (allS (by omega) (all0))
   have O219 : Old Z n0 h167 := O218.keep K167 (allS (by omega) (all0))
   have O220 : Old Z n0 h169 := O219.keep K169 (allS (by omega) (all0))
   have O221 : Old Z n0 h171 := O220.keep K171 (allS (by omega) (all0))
   have O222 : Old Z n0 h173 := O221.keep K173 (allS (by omega) (all0))
   have O223 : Old Z n0 h175 := O222.keep K175 (allS (by omega) (all0))
   have O224 : Old Z n0 h177 := O223.keep K177 (allS (by omega) (all0))
   have O225 : Old Z n0 h179 := O224.keep K179 (allS (by omega) (all0))
   have O226 : Old Z n0 h181 := O225.keep K181 (allS (by omega) (all0))
   have O227 : Old Z n0 h183 := O226.keep K183 (allS (by omega) (all0))
   have O228 : Old Z n0 h185 := O227.keep K185 (allS (by omega) (all0))
   have O229 : Old Z n0 h187 := O228.keep K187 (allS (by omega) (all0))
   have O230 : Old Z n0 h189 := O229.keep K189 (allS (by omega) (all0))
   have O231 : Old Z n0 h191 := O230.keep K191 (allS (by omega) (all0))
   have O232 : Old Z n0 h194 := O231.keep K194 (allS (by omega) (all0))
   have O233 : Old Z n0 h195 := O232.keep K195 all0
   obtain ⟨_, _, ⟨T196, L196, k196, n196⟩, -, X196, ⟨Lc196, hQ196, l196, y196, z196⟩, st196⟩ := X195.specialBack hx (y := mN36) rfl hown101 (mvT hZ101 (tw hw 36 rfl)) (mvT hZ101 (tw hw 37 rfl)) (mvT hZ101 (tw hw 38 rfl)) (by decide) (StrChars.Road.backV (W := 1) hZ101 hws (kI := 4) (tw hw 2 rfl) (cs := (media.set i c8)) (bs := (media.set i c8).map (fun c => c.toInt8.toInt32)) (n := 33) (by omega : @LE.le Nat _ n0 b195) (by omega) A195 F195_value F195_coder C197 (Sta.ext O233.2 S_CS) c_CS (own_setlen i c8) (by decide) (by decide) (by decide) (own_medsetr rc8) rfl (by decide) (by decide)) (g := (mkF m 385 #[vI p1, vI p2, vI p3, vI p4, vR b101, vI (Int32.ofNat i), vI m6, vI (((p1.toUInt32 >>> ((2 : Int32) &&& 31).toUInt32).toInt32) &&& (3 : Int32)), vI c8, vI a9, vI a10, vI a11, vI a12, vI (p1 &&& (3 : Int32)), vI (smF c8 m6), vR b125, .unset, .unset] [(.ref b125), (.ref b195), (.ref b195)])) rfl (by rw [hml]; rfl) (Steps.refl _) (a := b195) (argsL := [(.ref b125)]) (rest := [(.ref b195)]) (lenOf pd_5 rfl) rfl (wL _) (hb hby at_385) (fun _ _ => ⟨rfl, e195, (by decide : 5 + 1 ≤ _), (by decide : 237 + 33 ≤ _)⟩)
   dsimp only [Pt.U, Pt.locs, Pt.cells, Pt.slots] at X196 l196 y196 z196 st196 hQ196
   rw [l196] at X196
   subst y196 z196
   obtain ⟨rfl, N196q, K196, E196, C196, t196, kb196, ge196, gh196, tx196, Vf196, Av196⟩ := hQ196
   have lt196 : @LT.lt Nat _ t196 T196.heap.size := Av196.lt
   have tx196' : @Ne Nat t196 b195 := tx196
   have Sf234 : Safe Z EL1 T101.vm h194 b195 := Safe.new (by omega)
   have Sf235 := Safe.keep K195 sf0 cR36_K194.1 Sf234
   have hs38_K196 : ∀ x ∈ ([b195] : List Addr), Safe Z EL1 T101.vm h195 x := sfS Sf235 (sf0)
   have cR38_K196 := cR37_K195.trans (CHr.keep K196 hs38_K196 cR37_K195.1)
   have sz38_K196 := K196.1
   have Az196 : Arv Z T196.heap t196 kb196 .byte (Int32.ofNat (lat (media.set i c8)).length) ((lat (media.set i c8)).map Value.int) (.int 0) := by have h := Av196; rw [List.length_map, own_setlen]; exact h
   have N196 := Fr.app N194 N196q
   have O237 : Old Z n0 T196.heap := O233.keep K196 (allS (by omega) (all0))
   obtain ⟨_, _, ⟨T236, L236, k236, n236⟩, -, X236q, hSq236, hgr236, ⟨Lc236, hQ236, l236, y236, z236, cr236⟩, st236⟩ := callSS X196 hx (y := mN33) hown101 (mvT hZ101 (tw hw 56 rfl)) (mvT hZ101 (tw hw 57 rfl)) (mvT hZ101 (tw hw 58 rfl)) (mvT hZ101 (tw hw 59 rfl)) (by decide) (backOfSH (s := s) (vm0 := T101.vm) (EL := EL1) (W := 0) (rmIsf l Z a0 hw [] b195 (lat (media.set i c8)) cs0 t196 kb196 fm cin ta kA T196.heap n0 O237 S_CS c_CS E196 Vf196 C196 Az196 (by rw [List.length_map]; simp [own_medlen]) (by rw [List.length_map]; simp [own_medlen]) S_FM r_FM S_IN E_IN S_A V_A) hZ101 (tw hw 59 rfl) (tw hw 58 rfl) (by decide) (by decide) hEW cR38_K196.1) (g := (mkF m 388 #[vI p1, vI p2, vI p3, vI p4, vR b101, vI (Int32.ofNat i), vI m6, vI (((p1.toUInt32 >>> ((2 : Int32) &&& 31).toUInt32).toInt32) &&& (3 : Int32)), vI c8, vI a9, vI a10, vI a11, vI a12, vI (p1 &&& (3 : Int32)), vI (smF c8 m6), vR b125, .unset, .unset] [(.ref b195)])) rfl (by rw [hml]; rfl) (argsL := [(.ref b195)]) (rest := []) (lenOf pd_11 rfl) rfl (wL _) (hb hby at_388) (fun _ _ => ⟨rfl, rfl, (by decide : 6 + 12 ≤ _), (by decide : 270 + 236 ≤ _)⟩)
   dsimp only [Pt.U, Pt.locs, Pt.cells, Pt.slots] at X236q l236 y236 z236 st236 hQ236 hSq236 hgr236 cr236
   rw [l236] at X236q
   subst y236 z236
   obtain ⟨X236, hS236, hZ236, hown236⟩ := rebS (s := s) (vm0 := T101.vm) hS101 (by omega) X236q hSq236 hgr236 hZ101 hown101
   obtain ⟨rfl, N236q, K236⟩ := hQ236
   have cR39_K236 := cR38_K196.trans cr236
   have sz39_K236 := K236.1
   have N236 := Fr.app N196 N236q
   obtain ⟨fs, hr, hrun, hended, eR, eW, eI, eS⟩ := Stand.leaveW (s := s) (vm₁ := T236.vm) X236 hS236 (by omega) (v := some (.int 1)) (nvr Bd.returns)
   refine ⟨_, _, pre124 _ ?_, hrun, hended, _, _, rfl, ?_, eR, eW, eI, eS.mono (by decide) (by decide)⟩
   ·skip
    show SS p e below T122 m 171 #[vI p1, vI p2, vI p3, vI p4, vR b101, vI (Int32.ofNat i), vI m6, vI (((p1.toUInt32 >>> ((2 : Int32) &&& 31).toUInt32).toInt32) &&& (3 : Int32)), vI c8, vI a9, vI a10, vI a11, vI a12, vI (p1 &&& (3 : Int32)), vI (smF c8 m6), .unset, .unset, .unset] [(.int (p1 &&& (3 : Int32)))] _
    refine XS.ifNo X122.here hx rfl (hb hby at_171) rfl ((if0 _ _).trans (teq hc123).2) ?_
    refine XS.bipush X122.here hx rfl (hb hby at_174) ?_
    show SS p e below T122 m 176 #[vI p1, vI p2, vI p3, vI p4, vR b101, vI (Int32.ofNat i), vI m6, vI (((p1.toUInt32 >>> ((2 : Int32) &&& 31).toUInt32).toInt32) &&& (3 : Int32)), vI c8, vI a9, vI a10, vI a11, vI a12, vI (p1 &&& (3 : Int32)), vI (smF c8 m6), .unset, .unset, .unset] [(.int 33)] _
    refine st125 _ ?_
    refine XS.dup X125.here hx rfl (hb hby at_178) rfl rfl ?_
    refine XS.iconst X125.here hx rfl (hb hby at_179) ?_
    refine XS.bipush X125.here hx rfl (hb hby at_180) ?_
    show SS p e below T125 m 182 #[vI p1, vI p2, vI p3, vI p4, vR b101, vI (Int32.ofNat i), vI m6, vI (((p1.toUInt32 >>> ((2 : Int32) &&& 31).toUInt32).toInt32) &&& (3 : Int32)), vI c8, vI a9, vI a10, vI a11, vI a12, vI (p1 &&& (3 : Int32)), vI (smF c8 m6), .unset, .unset, .unset] [(.int 97), (.int 0), (.ref b125), (.ref b125)] _
    refine st127 _ ?_
    refine XS.dup X127.here hx rfl (hb hby at_183) rfl rfl ?_
    refine XS.iconst X127.here hx rfl (hb hby at_184) ?_
    refine XS.bipush X127.here hx rfl (hb hby at_185) ?_
    show SS p e below T127 m 187 #[vI p1, vI p2, vI p3, vI p4, vR b101, vI (Int32.ofNat i), vI m6, vI (((p1.toUInt32 >>> ((2 : Int32) &&& 31).toUInt32).toInt32) &&& (3 : Int32)), vI c8, vI a9, vI a10, vI a11, vI a12, vI (p1 &&& (3 : Int32)), vI (smF c8 m6), .unset, .unset, .unset] [(.int 112), (.int 1), (.ref b125), (.ref b125)] _
    refine st129 _ ?_
    refine XS.dup X129.here hx rfl (hb hby at_188) rfl rfl ?_
    refine XS.iconst X129.here hx rfl (hb hby at_189) ?_
    refine XS.bipush X129.here hx rfl (hb hby at_190) ?_
    show SS p e below T129 m 192 #[vI p1, vI p2, vI p3, vI p4, vR b101, vI (Int32.ofNat i), vI m6, vI (((p1.toUInt32 >>> ((2 : Int32) &&& 31).toUInt32).toInt32) &&& (3 : Int32)), vI c8, vI a9, vI a10, vI a11, vI a12, vI (p1 &&& (3 : Int32)), vI (smF c8 m6), .unset, .unset, .unset] [(.int 112), (.int 2), (.ref b125), (.ref b125)] _
    refine st131 _ ?_
    refine XS.dup X131.here hx rfl (hb hby at_193) rfl rfl ?_
    refine XS.iconst X131.here hx rfl (hb hby at_194) ?_
    refine XS.bipush X131.here hx rfl (hb hby at_195) ?_
    show SS p e below T131 m 197 #[vI p1, vI p2, vI p3, vI p4, vR b101, vI (Int32.ofNat i), vI m6, vI (((p1.toUInt32 >>> ((2 : Int32) &&& 31).toUInt32).toInt32) &&& (3 : Int32)), vI c8, vI a9, vI a10, vI a11, vI a12, vI (p1 &&& (3 : Int32)), vI (smF c8 m6), .unset, .unset, .unset] [(.int 108), (.int 3), (.ref b125), (.ref b125)] _
    refine st133 _ ?_
    refine XS.dup X133.here hx rfl (hb hby at_198) rfl rfl ?_
    refine XS.iconst X133.here hx rfl (hb hby at_199) ?_
    refine XS.bipush X133.here hx rfl (hb hby at_200) ?_
    show SS p e below T133 m 202 #[vI p1, vI p2, vI p3, vI p4, vR b101, vI (Int32.ofNat i), vI m6, vI (((p1.toUInt32 >>> ((2 : Int32) &&& 31).toUInt32).toInt32) &&& (3 : Int32)), vI c8, vI a9, vI a10, vI a11, vI a12, vI (p1 &&& (3 : Int32)), vI (smF c8 m6), .unset, .unset, .unset] [(.int 105), (.int 4), (.ref b125), (.ref b125)] _
    refine st135 _ ?_
    refine XS.dup X135.here hx rfl (hb hby at_203) rfl rfl ?_
    refine XS.iconst X135.here hx rfl (hb hby at_204) ?_
    refine XS.bipush X135.here hx rfl (hb hby at_205) ?_
    show SS p e below T135 m 207 #[vI p1, vI p2, vI p3, vI p4, vR b101, vI (Int32.ofNat i), vI m6, vI (((p1.toUInt32 >>> ((2 : Int32) &&& 31).toUInt32).toInt32) &&& (3 : Int32)), vI c8, vI a9, vI a10, vI a11, vI a12, vI (p1 &&& (3 : Int32)), vI (smF c8 m6), .unset, .unset, .unset] [(.int 99), (.int 5), (.ref b125), (.ref b125)] _
    refine st137 _ ?_
    refine XS.dup X137.here hx rfl (hb hby at_208) rfl rfl ?_
    refine XS.bipush X137.here hx rfl (hb hby at_209) ?_
    refine XS.bipush X137.here hx rfl (hb hby at_211) ?_
    show SS p e below T137 m 213 #[vI p1, vI p2, vI p3, vI p4, vR b101, vI (Int32.ofNat i), vI m6, vI (((p1.toUInt32 >>> ((2 : Int32) &&& 31).toUInt32).toInt32) &&& (3 : Int32)), vI c8, vI a9, vI a10, vI a11, vI a12, vI (p1 &&& (3 : Int32)), vI (smF c8 m6), .unset, .unset, .unset] [(.int 97), (.int 6), (.ref b125), (.ref b125)] _
    refine st139 _ ?_
    refine XS.dup X139.here hx rfl (hb hby at_214) rfl rfl ?_
    refine XS.bipush X139.here hx rfl (hb hby at_215) ?_
    refine XS.bipush X139.here hx rfl (hb hby at_217) ?_
    show SS p e below T139 m 219 #[vI p1, vI p2, vI p3, vI p4, vR b101, vI (Int32.ofNat i), vI m6, vI (((p1.toUInt32 >>> ((2 : Int32) &&& 31).toUInt32).toInt32) &&& (3 : Int32)), vI c8, vI a9, vI a10, vI a11, vI a12, vI (p1 &&& (3 : Int32)), vI (smF c8 m6), .unset, .unset, .unset] [(.int 116), (.int 7), (.ref b125), (.ref b125)] _
    refine st141 _ ?_
    refine XS.dup X141.here hx rfl (hb hby at_220) rfl rfl ?_
    refine XS.bipush X141.here hx rfl (hb hby at_221) ?_
    refine XS.bipush X141.here hx rfl (hb hby at_223) ?_
    show SS p e below T141 m 225 #[vI p1, vI p2, vI p3, vI p4, vR b101, vI (Int32.ofNat i), vI m6, vI (((p1.toUInt32 >>> ((2 : Int32) &&& 31).toUInt32).toInt32) &&& (3 : Int32)), vI c8, vI a9, vI a10, vI a11, vI a12, vI (p1 &&& (3 : Int32)), vI (smF c8 m6), .unset, .unset, .unset] [(.int 105), (.int 8), (.ref b125), (.ref b125)] _
    refine st143 _ ?_
    refine XS.dup X143.here hx rfl (hb hby at_226) rfl rfl ?_
    refine XS.bipush X143.here hx rfl (hb hby at_227) ?_
    refine XS.bipush X143.here hx rfl (hb hby at_229) ?_
    show SS p e below T143 m 231 #[vI p1, vI p2, vI p3, vI p4, vR b101, vI (Int32.ofNat i), vI m6, vI (((p1.toUInt32 >>> ((2 : Int32) &&& 31).toUInt32).toInt32) &&& (3 : Int32)), vI c8, vI a9, vI a10, vI a11, vI a12, vI (p1 &&& (3 : Int32)), vI (smF c8 m6), .unset, .unset, .unset] [(.int 111), (.int 9), (.ref b125), (.ref b125)] _
    refine st145 _ ?_
    refine XS.dup X145.here hx rfl (hb hby at_232) rfl rfl ?_
    refine XS.bipush X145.here hx rfl (hb hby at_233) ?_
    refine XS.bipush X145.here hx rfl (hb hby at_235) ?_
    show SS p e below T145 m 237 #[vI p1, vI p2, vI p3, vI p4, vR b101, vI (Int32.ofNat i), vI m6, vI (((p1.toUInt32 >>> ((2 : Int32) &&& 31).toUInt32).toInt32) &&& (3 : Int32)), vI c8, vI a9, vI a10, vI a11, vI a12, vI (p1 &&& (3 : Int32)), vI (smF c8 m6), .unset, .unset, .unset] [(.int 110), (.int 10), (.ref b125), (.ref b125)] _
    refine st147 _ ?_
    refine XS.dup X147.here hx rfl (hb hby at_238) rfl rfl ?_
    refine XS.bipush X147.here hx rfl (hb hby at_239) ?_
    refine XS.bipush X147.here hx rfl (hb hby at_241) ?_
    show SS p e below T147 m 243 #[vI p1, vI p2, vI p3, vI p4, vR b101, vI (Int32.ofNat i), vI m6, vI (((p1.toUInt32 >>> ((2 : Int32) &&& 31).toUInt32).toInt32) &&& (3 : Int32)), vI c8, vI a9, vI a10, vI a11, vI a12, vI (p1 &&& (3 : Int32)), vI (smF c8 m6), .unset, .unset, .unset] [(.int 47), (.int 11), (.ref b125), (.ref b125)] _
    refine st149 _ ?_
    refine XS.dup X149.here hx rfl (hb hby at_244) rfl rfl ?_
    refine XS.bipush X149.here hx rfl (hb hby at_245) ?_
    refine XS.bipush X149.here hx rfl (hb hby at_247) ?_
    show SS p e below T149 m 249 #[vI p1, vI p2, vI p3, vI p4, vR b101, vI (Int32.ofNat i), vI m6, vI (((p1.toUInt32 >>> ((2 : Int32) &&& 31).toUInt32).toInt32) &&& (3 : Int32)), vI c8, vI a9, vI a10, vI a11, vI a12, vI (p1 &&& (3 : Int32)), vI (smF c8 m6), .unset, .unset, .unset] [(.int 120), (.int 12), (.ref b125), (.ref b125)] _
    refine st151 _ ?_
    refine XS.dup X151.here hx rfl (hb hby at_250) rfl rfl ?_
    refine XS.bipush X151.here hx rfl (hb hby at_251) ?_
    refine XS.bipush X151.here hx rfl (hb hby at_253) ?_
    show SS p e below T151 m 255 #[vI p1, vI p2, vI p3, vI p4, vR b101, vI (Int32.ofNat i), vI m6, vI (((p1.toUInt32 >>> ((2 : Int32) &&& 31).toUInt32).toInt32) &&& (3 : Int32)), vI c8, vI a9, vI a10, vI a11, vI a12, vI (p1 &&& (3 : Int32)), vI (smF c8 m6), .unset, .unset, .unset] [(.int 45), (.int 13), (.ref b125), (.ref b125)] _
    refine st153 _ ?_
    refine XS.dup X153.here hx rfl (hb hby at_256) rfl rfl ?_
    refine XS.bipush X153.here hx rfl (hb hby at_257) ?_
    refine XS.bipush X153.here hx rfl (hb hby at_259) ?_
    show SS p e below T153 m 261 #[vI p1, vI p2, vI p3, vI p4, vR b101, vI (Int32.ofNat i), vI m6, vI (((p1.toUInt32 >>> ((2 : Int32) &&& 31).toUInt32).toInt32) &&& (3 : Int32)), vI c8, vI a9, vI a10, vI a11, vI a12, vI (p1 &&& (3 : Int32)), vI (smF c8 m6), .unset, .unset, .unset] [(.int 119), (.int 14), (.ref b125), (.ref b125)] _
    refine st155 _ ?_
    refine XS.dup X155.here hx rfl (hb hby at_262) rfl rfl ?_
    refine XS.bipush X155.here hx rfl (hb hby at_263) ?_
    refine XS.bipush X155.here hx rfl (hb hby at_265) ?_
    show SS p e below T155 m 267 #[vI p1, vI p2, vI p3, vI p4, vR b101, vI (Int32.ofNat i), vI m6, vI (((p1.toUInt32 >>> ((2 : Int32) &&& 31).toUInt32).toInt32) &&& (3 : Int32)), vI c8, vI a9, vI a10, vI a11, vI a12, vI (p1 &&& (3 : Int32)), vI (smF c8 m6), .unset, .unset, .unset] [(.int 119), (.int 15), (.ref b125), (.ref b125)] _
    refine st157 _ ?_
    refine XS.dup X157.here hx rfl (hb hby at_268) rfl rfl ?_
    refine XS.bipush X157.here hx rfl (hb hby at_269) ?_
    refine XS.bipush X157.here hx rfl (hb hby at_271) ?_
    show SS p e below T157 m 273 #[vI p1, vI p2, vI p3, vI p4, vR b101, vI (Int32.ofNat i), vI m6, vI (((p1.toUInt32 >>> ((2 : Int32) &&& 31).toUInt32).toInt32) &&& (3 : Int32)), vI c8, vI a9, vI a10, vI a11, vI a12, vI (p1 &&& (3 : Int32)), vI (smF c8 m6), .unset, .unset, .unset] [(.int 119), (.int 16), (.ref b125), (.ref b125)] _
    refine st159 _ ?_
    refine XS.dup X159.here hx rfl (hb hby at_274) rfl rfl ?_
    refine XS.bipush X159.here hx rfl (hb hby at_275) ?_
    refine XS.bipush X159.here hx rfl (hb hby at_277) ?_
    show SS p e below T159 m 279 #[vI p1, vI p2, vI p3, vI p4, vR b101, vI (Int32.ofNat i), vI m6, vI (((p1.toUInt32 >>> ((2 : Int32) &&& 31).toUInt32).toInt32) &&& (3 : Int32)), vI c8, vI a9, vI a10, vI a11, vI a12, vI (p1 &&& (3 : Int32)), vI (smF c8 m6), .unset, .unset, .unset] [(.int 45), (.int 17), (.ref b125), (.ref b125)] _
    refine st161 _ ?_
    refine XS.dup X161.here hx rfl (hb hby at_280) rfl rfl ?_
    refine XS.bipush X161.here hx rfl (hb hby at_281) ?_
    refine XS.bipush X161.here hx rfl (hb hby at_283) ?_
    show SS p e below T161 m 285 #[vI p1, vI p2, vI p3, vI p4, vR b101, vI (Int32.ofNat i), vI m6, vI (((p1.toUInt32 >>> ((2 : Int32) &&& 31).toUInt32).toInt32) &&& (3 : Int32)), vI c8, vI a9, vI a10, vI a11, vI a12, vI (p1 &&& (3 : Int32)), vI (smF c8 m6), .unset, .unset, .unset] [(.int 102), (.int 18), (.ref b125), (.ref b125)] _
    refine st163 _ ?_
    refine XS.dup X163.here hx rfl (hb hby at_286) rfl rfl ?_
    refine XS.bipush X163.here hx rfl (hb hby at_287) ?_
    refine XS.bipush X163.here hx rfl (hb hby at_289) ?_
    show SS p e below T163 m 291 #[vI p1, vI p2, vI p3, vI p4, vR b101, vI (Int32.ofNat i), vI m6, vI (((p1.toUInt32 >>> ((2 : Int32) &&& 31).toUInt32).toInt32) &&& (3 : Int32)), vI c8, vI a9, vI a10, vI a11, vI a12, vI (p1 &&& (3 : Int32)), vI (smF c8 m6), .unset, .unset, .unset] [(.int 111), (.int 19), (.ref b125), (.ref b125)] _
    refine st165 _ ?_
    refine XS.dup X165.here hx rfl (hb hby at_292) rfl rfl ?_
    refine XS.bipush X165.here hx rfl (hb hby at_293) ?_
    refine XS.bipush X165.here hx rfl (hb hby at_295) ?_
    show SS p e below T165 m 297 #[vI p1, vI p2, vI p3, vI p4, vR b101, vI (Int32.ofNat i), vI m6, vI (((p1.toUInt32 >>> ((2 : Int32) &&& 31).toUInt32).toInt32) &&& (3 : Int32)), vI c8, vI a9, vI a10, vI a11, vI a12, vI (p1 &&& (3 : Int32)), vI (smF c8 m6), .unset, .unset, .unset] [(.int 114), (.int 20), (.ref b125), (.ref b125)] _
    refine st167 _ ?_
    refine XS.dup X167.here hx rfl (hb hby at_298) rfl rfl ?_
    refine XS.bipush X167.here hx rfl (hb hby at_299) ?_
    refine XS.bipush X167.here hx rfl (hb hby at_301) ?_
    show SS p e below T167 m 303 #[vI p1, vI p2, vI p3, vI p4, vR b101, vI (Int32.ofNat i), vI m6, vI (((p1.toUInt32 >>> ((2 : Int32) &&& 31).toUInt32).toInt32) &&& (3 : Int32)), vI c8, vI a9, vI a10, vI a11, vI a12, vI (p1 &&& (3 : Int32)), vI (smF c8 m6), .unset, .unset, .unset] [(.int 109), (.int 21), (.ref b125), (.ref b125)] _
    refine st169 _ ?_
    refine XS.dup X169.here hx rfl (hb hby at_304) rfl rfl ?_
    refine XS.bipush X169.here hx rfl (hb hby at_305) ?_
    refine XS.bipush X169.here hx rfl (hb hby at_307) ?_
    show SS p e below T169 m 309 #[vI p1, vI p2, vI p3, vI p4, vR b101, vI (Int32.ofNat i), vI m6, vI (((p1.toUInt32 >>> ((2 : Int32) &&& 31).toUInt32).toInt32) &&& (3 : Int32)), vI c8, vI a9, vI a10, vI a11, vI a12, vI (p1 &&& (3 : Int32)), vI (smF c8 m6), .unset, .unset, .unset] [(.int 45), (.int 22), (.ref b125), (.ref b125)] _
    refine st171 _ ?_
    refine XS.dup X171.here hx rfl (hb hby at_310) rfl rfl ?_
    refine XS.bipush X171.here hx rfl (hb hby at_311) ?_
    refine XS.bipush X171.here hx rfl (hb hby at_313) ?_
    show SS p e below T171 m 315 #[vI p1, vI p2, vI p3, vI p4, vR b101, vI (Int32.ofNat i), vI m6, vI (((p1.toUInt32 >>> ((2 : Int32) &&& 31).toUInt32).toInt32) &&& (3 : Int32)), vI c8, vI a9, vI a10, vI a11, vI a12, vI (p1 &&& (3 : Int32)), vI (smF c8 m6), .unset, .unset, .unset] [(.int 117), (.int 23), (.ref b125), (.ref b125)] _
    refine st173 _ ?_
    refine XS.dup X173.here hx rfl (hb hby at_316) rfl rfl ?_
    refine XS.bipush X173.here hx rfl (hb hby at_317) ?_
    refine XS.bipush X173.here hx rfl (hb hby at_319) ?_
    show SS p e below T173 m 321 #[vI p1, vI p2, vI p3, vI p4, vR b101, vI (Int32.ofNat i), vI m6, vI (((p1.toUInt32 >>> ((2 : Int32) &&& 31).toUInt32).toInt32) &&& (3 : Int32)), vI c8, vI a9, vI a10, vI a11, vI a12, vI (p1 &&& (3 : Int32)), vI (smF c8 m6), .unset, .unset, .unset] [(.int 114), (.int 24), (.ref b125), (.ref b125)] _
    refine st175 _ ?_
    refine XS.dup X175.here hx rfl (hb hby at_322) rfl rfl ?_
    refine XS.bipush X175.here hx rfl (hb hby at_323) ?_
    refine XS.bipush X175.here hx rfl (hb hby at_325) ?_
    show SS p e below T175 m 327 #[vI p1, vI p2, vI p3, vI p4, vR b101, vI (Int32.ofNat i), vI m6, vI (((p1.toUInt32 >>> ((2 : Int32) &&& 31).toUInt32).toInt32) &&& (3 : Int32)), vI c8, vI a9, vI a10, vI a11, vI a12, vI (p1 &&& (3 : Int32)), vI (smF c8 m6), .unset, .unset, .unset] [(.int 108), (.int 25), (.ref b125), (.ref b125)] _
    refine st177 _ ?_
    refine XS.dup X177.here hx rfl (hb hby at_328) rfl rfl ?_
    refine XS.bipush X177.here hx rfl (hb hby at_329) ?_
    refine XS.bipush X177.here hx rfl (hb hby at_331) ?_
    show SS p e below T177 m 333 #[vI p1, vI p2, vI p3, vI p4, vR b101, vI (Int32.ofNat i), vI m6, vI (((p1.toUInt32 >>> ((2 : Int32) &&& 31).toUInt32).toInt32) &&& (3 : Int32)), vI c8, vI a9, vI a10, vI a11, vI a12, vI (p1 &&& (3 : Int32)), vI (smF c8 m6), .unset, .unset, .unset] [(.int 101), (.int 26), (.ref b125), (.ref b125)] _
    refine st179 _ ?_
    refine XS.dup X179.here hx rfl (hb hby at_334) rfl rfl ?_
    refine XS.bipush X179.here hx rfl (hb hby at_335) ?_
    refine XS.bipush X179.here hx rfl (hb hby at_337) ?_
    show SS p e below T179 m 339 #[vI p1, vI p2, vI p3, vI p4, vR b101, vI (Int32.ofNat i), vI m6, vI (((p1.toUInt32 >>> ((2 : Int32) &&& 31).toUInt32).toInt32) &&& (3 : Int32)), vI c8, vI a9, vI a10, vI a11, vI a12, vI (p1 &&& (3 : Int32)), vI (smF c8 m6), .unset, .unset, .unset] [(.int 110), (.int 27), (.ref b125), (.ref b125)] _
    refine st181 _ ?_
    refine XS.dup X181.here hx rfl (hb hby at_340) rfl rfl ?_
    refine XS.bipush X181.here hx rfl (hb hby at_341) ?_
    refine XS.bipush X181.here hx rfl (hb hby at_343) ?_
    show SS p e below T181 m 345 #[vI p1, vI p2, vI p3, vI p4, vR b101, vI (Int32.ofNat i), vI m6, vI (((p1.toUInt32 >>> ((2 : Int32) &&& 31).toUInt32).toInt32) &&& (3 : Int32)), vI c8, vI a9, vI a10, vI a11, vI a12, vI (p1 &&& (3 : Int32)), vI (smF c8 m6), .unset, .unset, .unset] [(.int 99), (.int 28), (.ref b125), (.ref b125)] _
    refine st183 _ ?_
    refine XS.dup X183.here hx rfl (hb hby at_346) rfl rfl ?_
    refine XS.bipush X183.here hx rfl (hb hby at_347) ?_
    refine XS.bipush X183.here hx rfl (hb hby at_349) ?_
    show SS p e below T183 m 351 #[vI p1, vI p2, vI p3, vI p4, vR b101, vI (Int32.ofNat i), vI m6, vI (((p1.toUInt32 >>> ((2 : Int32) &&& 31).toUInt32).toInt32) &&& (3 : Int32)), vI c8, vI a9, vI a10, vI a11, vI a12, vI (p1 &&& (3 : Int32)), vI (smF c8 m6), .unset, .unset, .unset] [(.int 111), (.int 29), (.ref b125), (.ref b125)] _
    refine st185 _ ?_
    refine XS.dup X185.here hx rfl (hb hby at_352) rfl rfl ?_
    refine XS.bipush X185.here hx rfl (hb hby at_353) ?_
    refine XS.bipush X185.here hx rfl (hb hby at_355) ?_
    show SS p e below T185 m 357 #[vI p1, vI p2, vI p3, vI p4, vR b101, vI (Int32.ofNat i), vI m6, vI (((p1.toUInt32 >>> ((2 : Int32) &&& 31).toUInt32).toInt32) &&& (3 : Int32)), vI c8, vI a9, vI a10, vI a11, vI a12, vI (p1 &&& (3 : Int32)), vI (smF c8 m6), .unset, .unset, .unset] [(.int 100), (.int 30), (.ref b125), (.ref b125)] _
    refine st187 _ ?_
    refine XS.dup X187.here hx rfl (hb hby at_358) rfl rfl ?_
    refine XS.bipush X187.here hx rfl (hb hby at_359) ?_
    refine XS.bipush X187.here hx rfl (hb hby at_361) ?_
    show SS p e below T187 m 363 #[vI p1, vI p2, vI p3, vI p4, vR b101, vI (Int32.ofNat i), vI m6, vI (((p1.toUInt32 >>> ((2 : Int32) &&& 31).toUInt32).toInt32) &&& (3 : Int32)), vI c8, vI a9, vI a10, vI a11, vI a12, vI (p1 &&& (3 : Int32)), vI (smF c8 m6), .unset, .unset, .unset] [(.int 101), (.int 31), (.ref b125), (.ref b125)] _
    refine st189 _ ?_
    refine XS.dup X189.here hx rfl (hb hby at_364) rfl rfl ?_
    refine XS.bipush X189.here hx rfl (hb hby at_365) ?_
    refine XS.bipush X189.here hx rfl (hb hby at_367) ?_
    show SS p e below T189 m 369 #[vI p1, vI p2, vI p3, vI p4, vR b101, vI (Int32.ofNat i), vI m6, vI (((p1.toUInt32 >>> ((2 : Int32) &&& 31).toUInt32).toInt32) &&& (3 : Int32)), vI c8, vI a9, vI a10, vI a11, vI a12, vI (p1 &&& (3 : Int32)), vI (smF c8 m6), .unset, .unset, .unset] [(.int 100), (.int 32), (.ref b125), (.ref b125)] _
    refine st191 _ ?_
    refine XS.astore X191.here hx rfl (hb hby at_370) rfl rfl (l' := #[vI p1, vI p2, vI p3, vI p4, vR b101, vI (Int32.ofNat i), vI m6, vI (((p1.toUInt32 >>> ((2 : Int32) &&& 31).toUInt32).toInt32) &&& (3 : Int32)), vI c8, vI a9, vI a10, vI a11, vI a12, vI (p1 &&& (3 : Int32)), vI (smF c8 m6), vR b125, .unset, .unset]) rfl ?_
    refine XS.aload X191.here hx rfl (hb hby at_372) rfl rfl ?_
    refine XS.iload X191.here hx rfl (hb hby at_374) rfl ?_
    refine XS.iload X191.here hx rfl (hb hby at_376) rfl ?_
    show SS p e below T191 m 378 #[vI p1, vI p2, vI p3, vI p4, vR b101, vI (Int32.ofNat i), vI m6, vI (((p1.toUInt32 >>> ((2 : Int32) &&& 31).toUInt32).toInt32) &&& (3 : Int32)), vI c8, vI a9, vI a10, vI a11, vI a12, vI (p1 &&& (3 : Int32)), vI (smF c8 m6), vR b125, .unset, .unset] [(.int c8), (.int (Int32.ofNat i)), (.ref b125)] _
    refine st194 _ ?_
    show SS p e below T194 m 379 #[vI p1, vI p2, vI p3, vI p4, vR b101, vI (Int32.ofNat i), vI m6, vI (((p1.toUInt32 >>> ((2 : Int32) &&& 31).toUInt32).toInt32) &&& (3 : Int32)), vI c8, vI a9, vI a10, vI a11, vI a12, vI (p1 &&& (3 : Int32)), vI (smF c8 m6), vR b125, .unset, .unset] [] _
    refine st195 _ ?_
    refine XS.dup X195.here hx rfl (hb hby at_382) rfl rfl ?_
    refine XS.aload X195.here hx rfl (hb hby at_383) rfl rfl ?_
    show SS p e below T195 m 385 #[vI p1, vI p2, vI p3, vI p4, vR b101, vI (Int32.ofNat i), vI m6, vI (((p1.toUInt32 >>> ((2 : Int32) &&& 31).toUInt32).toInt32) &&& (3 : Int32)), vI c8, vI a9, vI a10, vI a11, vI a12, vI (p1 &&& (3 : Int32)), vI (smF c8 m6), vR b125, .unset, .unset] [(.ref b125), (.ref b195), (.ref b195)] _
    refine st196.trans ?_
    show SS p e below T196 m 388 #[vI p1, vI p2, vI p3, vI p4, vR b101, vI (Int32.ofNat i), vI m6, vI (((p1.toUInt32 >>> ((2 : Int32) &&& 31).toUInt32).toInt32) &&& (3 : Int32)), vI c8, vI a9, vI a10, vI a11, vI a12, vI (p1 &&& (3 : Int32)), vI (smF c8 m6), vR b125, .unset, .unset] [(.ref b195)] _
    refine st236.trans ?_
    refine XS.iload X236.here hx rfl (hb hby at_391) rfl ?_
    refine XS.icmpNo X236.here hx rfl (hb hby at_393) rfl (teq (by rw [isF_0 rc8 hi, em6, own_smF rm6] : (isF (lat (media.set i c8))) = (smF c8 m6))).2 ?_
    refine XS.iconst X236.here hx rfl (hb hby at_396) ?_
    refine XS.goto X236.here hx rfl (pc0 := 397) (pc' := 401) rfl (hb hby at_397) (by decide) (by decide) ?_
    show SS p e below T236 m 401 #[vI p1, vI p2, vI p3, vI p4, vR b101, vI (Int32.ofNat i), vI m6, vI (((p1.toUInt32 >>> ((2 : Int32) &&& 31).toUInt32).toInt32) &&& (3 : Int32)), vI c8, vI a9, vI a10, vI a11, vI a12, vI (p1 &&& (3 : Int32)), vI (smF c8 m6), vR b125, .unset, .unset] [(.int 1)] _
    exact retN X236 hx (t := .boolean) Bd.returns (by simp) (hb hby at_401) hr
   ·show Q_rm0 Z p1 p2 p3 p4 cs0 fm cin ta kA h0 n0 _ T236.heap _
    exact ⟨rfl, N236⟩
  ·skip
   obtain ⟨T238, h238, k238, X238, e238, E238, A238, st238⟩ := newP X122 hx hZ101 (tw hw 34 rfl) f122 (g := (mkF m 404 #[vI p1, vI p2, vI p3, vI p4, vR b101, vI (Int32.ofNat i), vI m6, vI (((p1.toUInt32 >>> ((2 : Int32) &&& 31).toUInt32).toInt32) &&& (3 : Int32)), vI c8, vI a9, vI a10, vI a11, vI a12, vI (p1 &&& (3 : Int32)), vI (smF c8 m6), .unset, .unset, .unset] [(.int 37)])) rfl (hb hby at_404) rfl (by decide) (cap := 37) (by decide) (by decide) (by decide) (by decide)
   obtain ⟨b238, g238⟩ : ∃ z, z = h101.size := ⟨_, rfl⟩
   rw [← g238] at A238 st238
   have V238 : Arv Z h238 b238 k238 .char (37 : Int32) [(.int 0), (.int 0), (.int 0), (.int 0), (.int 0), (.int 0), (.int 0), (.int 0), (.int 0), (.int 0), (.int 0), (.int 0), (.int 0), (.int 0), (.int 0), (.int 0), (.int 0), (.int 0), (.int 0), (.int 0), (.int 0), (.int 0), (.int 0), (.int 0), (.int 0), (.int 0), (.int 0), (.int 0), (.int 0), (.int 0), (.int 0), (.int 0), (.int 0), (.int 0), (.int 0), (.int 0), (.int 0)] (.int 0) := (Arv.new A238 (by decide)).pad (pad_rep [] (.int 0) 37)
   have lt238 : @LT.lt Nat _ b238 h238.size := V238.lt
   have K238 : Keep h101 h238 [] := (Keep.refl _ _).ext E238
   have cR2_K238 := cR1_K101.trans (CHr.keep K238 sf0 cR1_K101.1)
   have sz2_K238 := K238.1
   obtain ⟨cl239, Ar239, q239, S239, Nn239, H239, G239⟩ := id V238
   obtain ⟨T240, h240, X240, e240, W240, st240⟩ := stC X238 hx hZ101 e238 Ar239 (j := (0 : Int32)) (inb_of S239 ⟨by decide, by decide⟩) (g := (mkF m 410 #[vI p1, vI p2, vI p3, vI p4, vR b101, vI (Int32.ofNat i), vI m6, vI (((p1.toUInt32 >>> ((2 : Int32) &&& 31).toUInt32).toInt32) &&& (3 : Int32)), vI c8, vI a9, vI a10, vI a11, vI a12, vI (p1 &&& (3 : Int32)), vI (smF c8 m6), .unset, .unset, .unset] [(.int 32), (.int 0), (.ref b238), (.ref b238)])) rfl rfl (hb hby at_410)
   rw [own_nc (show ¬ (32 : Int32) < 0 ∧ ¬ (65535 : Int32) < (32 : Int32) by decide)] at W240
   have V240 : Arv Z h240 b238 k238 .char (37 : Int32) [(.int 32), (.int 0), (.int 0), (.int 0), (.int 0), (.int 0), (.int 0), (.int 0), (.int 0), (.int 0), (.int 0), (.int 0), (.int 0), (.int 0), (.int 0), (.int 0), (.int 0), (.int 0), (.int 0), (.int 0), (.int 0), (.int 0), (.int 0), (.int 0), (.int 0), (.int 0), (.int 0), (.int 0), (.int 0), (.int 0), (.int 0), (.int 0), (.int 0), (.int 0), (.int 0), (.int 0), (.int 0)] (.int 0) := Arv.set Ar239 q239 S239 Nn239 H239 G239 (own_fitc (show ¬ (32 : Int32) < 0 ∧ ¬ (65535 : Int32) < (32 : Int32) by decide)) W240 0 rfl (Nat.le_of_ble_eq_true rfl)
   have K240 := Keep.of_wr W240
   have N240 := Fr.snoc X240 N122 (by omega : @LE.le Nat _ n0 b238)
   have hs3_K240 : ∀ x ∈ ([b238] : List Addr), Safe Z EL1 T101.vm h238 x := sfS (Safe.arv hZ101.alike V238 (by decide)) (sf0)
   have cR3_K240 := cR2_K238.trans (CHr.keep K240 hs3_K240 cR2_K238.1)
   have sz3_K240 := K240.1
   obtain ⟨cl241, Ar241, q241, S241, Nn241, H241, G241⟩ := id V240
   obtain ⟨T242, h242, X242, e242, W242, st242⟩ := stC X240 hx hZ101 e240 Ar241 (j := (1 : Int32)) (inb_of S241 ⟨by decide, by decide⟩) (g := (mkF m 415 #[vI p1, vI p2, vI p3, vI p4, vR b101, vI (Int32.ofNat i), vI m6, vI (((p1.toUInt32 >>> ((2 : Int32) &&& 31).toUInt32).toInt32) &&& (3 : Int32)), vI c8, vI a9, vI a10, vI a11, vI a12, vI (p1 &&& (3 : Int32)), vI (smF c8 m6), .unset, .unset, .unset] [(.int 97), (.int 1), (.ref b238), (.ref b238)])) rfl rfl (hb hby at_415)
   rw [own_nc (show ¬ (97 : Int32) < 0 ∧ ¬ (65535 : Int32) < (97 : Int32) by decide)] at W242
   have V242 : Arv Z h242 b238 k238 .char (37 : Int32) [(.int 32), (.int 97), (.int 0), (.int 0), (.int 0), (.int 0), (.int 0), (.int 0), (.int 0), (.int 0), (.int 0), (.int 0), (.int 0), (.int 0), (.int 0), (.int 0), (.int 0), (.int 0), (.int 0), (.int 0), (.int 0), (.int 0), (.int 0), (.int 0), (.int 0), (.int 0), (.int 0), (.int 0), (.int 0), (.int 0), (.int 0), (.int 0), (.int 0), (.int 0), (.int 0), (.int 0), (.int 0)] (.int 0) := Arv.set Ar241 q241 S241 Nn241 H241 G241 (own_fitc (show ¬ (97 : Int32) < 0 ∧ ¬ (65535 : Int32) < (97 : Int32) by decide)) W242 1 rfl (Nat.le_of_ble_eq_true rfl)
   have K242 := Keep.of_wr W242
   have N242 := Fr.snoc X242 N240 (by omega : @LE.le Nat _ n0 b238)
   have hs4_K242 : ∀ x ∈ ([b238] : List Addr), Safe Z EL1 T101.vm h240 x := sfS (Safe.arv hZ101.alike V240 (by decide)) (sf0)
   have cR4_K242 := cR3_K240.trans (CHr.keep K242 hs4_K242 cR3_K240.1)
   have sz4_K242 := K242.1
   obtain ⟨cl243, Ar243, q243, S243, Nn243, H243, G243⟩ := id V242
   obtain ⟨T244, h244, X244, e244, W244, st244⟩ := stC X242 hx hZ101 e242 Ar243 (j := (2 : Int32)) (inb_of S243 ⟨by decide, by decide⟩) (g := (mkF m 420 #[vI p1, vI p2, vI p3, vI p4, vR b101, vI (Int32.ofNat i), vI m6, vI (((p1.toUInt32 >>> ((2 : Int32) &&& 31).toUInt32).toInt32) &&& (3 : Int32)), vI c8, vI a9, vI a10, vI a11, vI a12, vI (p1 &&& (3 : Int32)), vI (smF c8 m6), .unset, .unset, .unset] [(.int 112), (.int 2), (.ref b238), (.ref b238)])) rfl rfl (hb hby at_420)
   rw [own_nc (show ¬ (112 : Int32) < 0 ∧ ¬ (65535 : Int32) < (112 : Int32) by decide)] at W244
   have V244 : Arv Z h244 b238 k238 .char (37 : Int32) [(.int 32), (.int 97), (.int 112), (.int 0), (.int 0), (.int 0), (.int 0), (.int 0), (.int 0), (.int 0), (.int 0), (.int 0), (.int 0), (.int 0), (.int 0), (.int 0), (.int 0), (.int 0), (.int 0), (.int 0), (.int 0), (.int 0), (.int 0), (.int 0), (.int 0), (.int 0), (.int 0), (.int 0), (.int 0), (.int 0), (.int 0), (.int 0), (.int 0), (.int 0), (.int 0), (.int 0), (.int 0)] (.int 0) := Arv.set Ar243 q243 S243 Nn243 H243 G243 (own_fitc (show ¬ (112 : Int32) < 0 ∧ ¬ (65535 : Int32) < (112 : Int32) by decide)) W244 2 rfl (Nat.le_of_ble_eq_true rfl)
   have K244 := Keep.of_wr W244
   have N244 := Fr.snoc X244 N242 (by omega : @LE.le Nat _ n0 b238)
   have hs5_K244 : ∀ x ∈ ([b238] : List Addr), Safe Z EL1 T101.vm h242 x := sfS (Safe.arv hZ101.alike V242 (by decide)) (sf0)
   have cR5_K244 := cR4_K242.trans (CHr.keep K244 hs5_K244 cR4_K242.1)
   have sz5_K244 := K244.1
   obtain ⟨cl245, Ar245, q245, S245, Nn245, H245, G245⟩ := id V244
   obtain ⟨T246, h246, X246, e246, W246, st246⟩ := stC X244 hx hZ101 e244 Ar245 (j := (3 : Int32)) (inb_of S245 ⟨by decide, by decide⟩) (g := (mkF m 425 #[vI p1, vI p2, vI p3, vI p4, vR b101, vI (Int32.ofNat i), vI m6, vI (((p1.toUInt32 >>> ((2 : Int32) &&& 31).toUInt32).toInt32) &&& (3 : Int32)), vI c8, vI a9, vI a10, vI a11, vI a12, vI (p1 &&& (3 : Int32)), vI (smF c8 m6), .unset, .unset, .unset] [(.int 112), (.int 3), (.ref b238), (.ref b238)])) rfl rfl (hb hby at_425)
   rw [own_nc (show ¬ (112 : Int32) < 0 ∧ ¬ (65535 : Int32) < (112 : Int32) by decide)] at W246
   have V246 : Arv Z h246 b238 k238 .char (37 : Int32) [(.int 32), (.int 97), (.int 112), (.int 112), (.int 0), (.int 0), (.int 0), (.int 0), (.int 0), (.int 0), (.int 0), (.int 0), (.int 0), (.int 0), (.int 0), (.int 0), (.int 0), (.int 0), (.int 0), (.int 0), (.int 0), (.int 0), (.int 0), (.int 0), (.int 0), (.int 0), (.int 0), (.int 0), (.int 0), (.int 0), (.int 0), (.int 0), (.int 0), (.int 0), (.int 0), (.int 0), (.int 0)] (.int 0) := Arv.set Ar245 q245 S245 Nn245 H245 G245 (own_fitc (show ¬ (112 : Int32) < 0 ∧ ¬ (65535 : Int32) < (112 : Int32) by decide)) W246 3 rfl (Nat.le_of_ble_eq_true rfl)
   have K246 := Keep.of_wr W246
   have N246 := Fr.snoc X246 N244 (by omega : @LE.le Nat _ n0 b238)
   have hs6_K246 : ∀ x ∈ ([b238] : List Addr), Safe Z EL1 T101.vm h244 x := sfS (Safe.arv hZ101.alike V244 (by decide)) (sf0)
   have cR6_K246 := cR5_K244.trans (CHr.keep K246 hs6_K246 cR5_K244.1)
   have sz6_K246 := K246.1
   obtain ⟨cl247, Ar247, q247, S247, Nn247, H247, G247⟩ := id V246
   obtain ⟨T248, h248, X248, e248, W248, st248⟩ := stC X246 hx hZ101 e246 Ar247 (j := (4 : Int32)) (inb_of S247 ⟨by decide, by decide⟩) (g := (mkF m 430 #[vI p1, vI p2, vI p3, vI p4, vR b101, vI (Int32.ofNat i), vI m6, vI (((p1.toUInt32 >>> ((2 : Int32) &&& 31).toUInt32).toInt32) &&& (3 : Int32)), vI c8, vI a9, vI a10, vI a11, vI a12, vI (p1 &&& (3 : Int32)), vI (smF c8 m6), .unset, .unset, .unset] [(.int 108), (.int 4), (.ref b238), (.ref b238)])) rfl rfl (hb hby at_430)
   rw [own_nc (show ¬ (108 : Int32) < 0 ∧ ¬ (65535 : Int32) < (108 : Int32) by decide)] at W248
   have V248 : Arv Z h248 b238 k238 .char (37 : Int32) [(.int 32), (.int 97), (.int 112), (.int 112), (.int 108), (.int 0), (.int 0), (.int 0), (.int 0), (.int 0), (.int 0), (.int 0), (.int 0), (.int 0), (.int 0), (.int 0), (.int 0), (.int 0), (.int 0), (.int 0), (.int 0), (.int 0), (.int 0), (.int 0), (.int 0), (.int 0), (.int 0), (.int 0), (.int 0), (.int 0), (.int 0), (.int 0), (.int 0), (.int 0), (.int 0), (.int 0), (.int 0)] (.int 0) := Arv.set Ar247 q247 S247 Nn247 H247 G247 (own_fitc (show ¬ (108 : Int32) < 0 ∧ ¬ (65535 : Int32) < (108 : Int32) by decide)) W248 4 rfl (Nat.le_of_ble_eq_true rfl)
   have K248 := Keep.of_wr W248
   have N248 := Fr.snoc X248 N246 (by omega : @LE.le Nat _ n0 b238)
   have hs7_K248 : ∀ x ∈ ([b238] : List Addr), Safe Z EL1 T101.vm h246 x := sfS (Safe.arv hZ101.alike V246 (by decide)) (sf0)
   have cR7_K248 := cR6_K246.trans (CHr.keep K248 hs7_K248 cR6_K246.1)
   have sz7_K248 := K248.1
   obtain ⟨cl249, Ar249, q249, S249, Nn249, H249, G249⟩ := id V248
   obtain ⟨T250, h250, X250, e250, W250, st250⟩ := stC X248 hx hZ101 e248 Ar249 (j := (5 : Int32)) (inb_of S249 ⟨by decide, by decide⟩) (g := (mkF m 435 #[vI p1, vI p2, vI p3, vI p4, vR b101, vI (Int32.ofNat i), vI m6, vI (((p1.toUInt32 >>> ((2 : Int32) &&& 31).toUInt32).toInt32) &&& (3 : Int32)), vI c8, vI a9, vI a10, vI a11, vI a12, vI (p1 &&& (3 : Int32)), vI (smF c8 m6), .unset, .unset, .unset] [(.int 105), (.int 5), (.ref b238), (.ref b238)])) rfl rfl (hb hby at_435)
   rw [own_nc (show ¬ (105 : Int32) < 0 ∧ ¬ (65535 : Int32) < (105 : Int32) by decide)] at W250
   have V250 : Arv Z h250 b238 k238 .char (37 : Int32) [(.int 32), (.int 97), (.int 112), (.int 112), (.int 108), (.int 105), (.int 0), (.int 0), (.int 0), (.int 0), (.int 0), (.int 0), (.int 0), (.int 0), (.int 0), (.int 0), (.int 0), (.int 0), (.int 0), (.int 0), (.int 0), (.int 0), (.int 0), (.int 0), (.int 0), (.int 0), (.int 0), (.int 0), (.int 0), (.int 0), (.int 0), (.int 0), (.int 0), (.int 0), (.int 0), (.int 0), (.int 0)] (.int 0) := Arv.set Ar249 q249 S249 Nn249 H249 G249 (own_fitc (show ¬ (105 : Int32) < 0 ∧ ¬ (65535 : Int32) < (105 : Int32) by decide)) W250 5 rfl (Nat.le_of_ble_eq_true rfl)
   have K250 := Keep.of_wr W250
   have N250 := Fr.snoc X250 N248 (by omega : @LE.le Nat _ n0 b238)
   have hs8_K250 : ∀ x ∈ ([b238] : List Addr), Safe Z EL1 T101.vm h248 x := sfS (Safe.arv hZ101.alike V248 (by decide)) (sf0)
   have cR8_K250 := cR7_K248.trans (CHr.keep K250 hs8_K250 cR7_K248.1)
   have sz8_K250 := K250.1
   obtain ⟨cl251, Ar251, q251, S251, Nn251, H251, G251⟩ := id V250
   obtain ⟨T252, h252, X252, e252, W252, st252⟩ := stC X250 hx hZ101 e250 Ar251 (j := (6 : Int32)) (inb_of S251 ⟨by decide, by decide⟩) (g := (mkF m 441 #[vI p1, vI p2, vI p3, vI p4, vR b101, vI (Int32.ofNat i), vI m6, vI (((p1.toUInt32 >>> ((2 : Int32) &&& 31).toUInt32).toInt32) &&& (3 : Int32)), vI c8, vI a9, vI a10, vI a11, vI a12, vI (p1 &&& (3 : Int32)), vI (smF c8 m6), .unset, .unset, .unset] [(.int 99), (.int 6), (.ref b238), (.ref b238)])) rfl rfl (hb hby at_441)
   rw [own_nc (show ¬ (99 : Int32) < 0 ∧ ¬ (65535 : Int32) < (99 : Int32) by decide)] at W252
   have V252 : Arv Z h252 b238 k238 .char (37 : Int32) [(.int 32), (.int 97), (.int 112), (.int 112), (.int 108), (.int 105), (.int 99), (.int 0), (.int 0), (.int 0), (.int 0), (.int 0), (.int 0), (.int 0), (.int 0), (.int 0), (.int 0), (.int 0), (.int 0), (.int 0), (.int 0), (.int 0), (.int 0), (.int 0), (.int 0), (.int 0), (.int 0), (.int 0), (.int 0), (.int 0), (.int 0), (.int 0), (.int 0), (.int 0), (.int 0), (.int 0), (.int 0)] (.int 0) := Arv.set Ar251 q251 S251 Nn251 H251 G251 (own_fitc (show ¬ (99 : Int32) < 0 ∧ ¬ (65535 : Int32) < (99 : Int32) by decide)) W252 6 rfl (Nat.le_of_ble_eq_true rfl)
   have K252 := Keep.of_wr W252
   have N252 := Fr.snoc X252 N250 (by omega : @LE.le Nat _ n0 b238)
   have hs9_K252 : ∀ x ∈ ([b238] : List Addr), Safe Z EL1 T101.vm h250 x := sfS (Safe.arv hZ101.alike V250 (by decide)) (sf0)
   have cR9_K252 := cR8_K250.trans (CHr.keep K252 hs9_K252 cR8_K250.1)
   have sz9_K252 := K252.1
   obtain ⟨cl253, Ar253, q253, S253, Nn253, H253, G253⟩ := id V252
   obtain ⟨T254, h254, X254, e254, W254, st254⟩ := stC X252 hx hZ101 e252 Ar253 (j := (7 : Int32)) (inb_of S253 ⟨by decide, by decide⟩) (g := (mkF m 447 #[vI p1, vI p2, vI p3, vI p4, vR b101, vI (Int32.ofNat i), vI m6, vI (((p1.toUInt32 >>> ((2 : Int32) &&& 31).toUInt32).toInt32) &&& (3 : Int32)), vI c8, vI a9, vI a10, vI a11, vI a12, vI (p1 &&& (3 : Int32)), vI (smF c8 m6), .unset, .unset, .unset] [(.int 97), (.int 7), (.ref b238), (.ref b238)])) rfl rfl (hb hby at_447)
   rw [own_nc (show ¬ (97 : Int32) < 0 ∧ ¬ (65535 : Int32) < (97 : Int32) by decide)] at W254
   have V254 : Arv Z h254 b238 k238 .char (37 : Int32) [(.int 32), (.int 97), (.int 112), (.int 112), (.int 108), (.int 105), (.int 99), (.int 97), (.int 0), (.int 0), (.int 0), (.int 0), (.int 0), (.int 0), (.int 0), (.int 0), (.int 0), (.int 0), (.int 0), (.int 0), (.int 0), (.int 0), (.int 0), (.int 0), (.int 0), (.int 0), (.int 0), (.int 0), (.int 0), (.int 0), (.int 0), (.int 0), (.int 0), (.int 0), (.int 0), (.int 0), (.int 0)] (.int 0) := Arv.set Ar253 q253 S253 Nn253 H253 G253 (own_fitc (show ¬ (97 : Int32) < 0 ∧ ¬ (65535 : Int32) < (97 : Int32) by decide)) W254 7 rfl (Nat.le_of_ble_eq_true rfl)
   have K254 := Keep.of_wr W254
   have N254 := Fr.snoc X254 N252 (by omega : @LE.le Nat _ n0 b238)
   have hs10_K254 : ∀ x ∈ ([b238] : List Addr), Safe Z EL1 T101.vm h252 x := sfS (Safe.arv hZ101.alike V252 (by decide)) (sf0)
   have cR10_K254 := cR9_K252.trans (CHr.keep K254 hs10_K254 cR9_K252.1)
   have sz10_K254 := K254.1
   obtain ⟨cl255, Ar255, q255, S255, Nn255, H255, G255⟩ := id V254
   obtain ⟨T256, h256, X256, e256, W256, st256⟩ := stC X254 hx hZ101 e254 Ar255 (j := (8 : Int32)) (inb_of S255 ⟨by decide, by decide⟩) (g := (mkF m 453 #[vI p1, vI p2, vI p3, vI p4, vR b101, vI (Int32.ofNat i), vI m6, vI (((p1.toUInt32 >>> ((2 : Int32) &&& 31).toUInt32).toInt32) &&& (3 : Int32)), vI c8, vI a9, vI a10, vI a11, vI a12, vI (p1 &&& (3 : Int32)), vI (smF c8 m6), .unset, .unset, .unset] [(.int 116), (.int 8), (.ref b238), (.ref b238)])) rfl rfl (hb hby at_453)
   rw [own_nc (show ¬ (116 : Int32) < 0 ∧ ¬ (65535 : Int32) < (116 : Int32) by decide)] at W256
   have V256 : Arv Z h256 b238 k238 .char (37 : Int32) [(.int 32), (.int 97), (.int 112), (.int 112), (.int 108), (.int 105), (.int 99), (.int 97), (.int 116), (.int 0), (.int 0), (.int 0), (.int 0), (.int 0), (.int 0), (.int 0), (.int 0), (.int 0), (.int 0), (.int 0), (.int 0), (.int 0), (.int 0), (.int 0), (.int 0), (.int 0), (.int 0), (.int 0), (.int 0), (.int 0), (.int 0), (.int 0), (.int 0), (.int 0), (.int 0), (.int 0), (.int 0)] (.int 0) := Arv.set Ar255 q255 S255 Nn255 H255 G255 (own_fitc (show ¬ (116 : Int32) < 0 ∧ ¬ (65535 : Int32) < (116 : Int32) by decide)) W256 8 rfl (Nat.le_of_ble_eq_true rfl)
   have K256 := Keep.of_wr W256
   have N256 := Fr.snoc X256 N254 (by omega : @LE.le Nat _ n0 b238)
   have hs11_K256 : ∀ x ∈ ([b238] : List Addr), Safe Z EL1 T101.vm h254 x := sfS (Safe.arv hZ101.alike V254 (by decide)) (sf0)
   have cR11_K256 := cR10_K254.trans (CHr.keep K256 hs11_K256 cR10_K254.1)
   have sz11_K256 := K256.1
   obtain ⟨cl257, Ar257, q257, S257, Nn257, H257, G257⟩ := id V256
   obtain ⟨T258, h258, X258, e258, W258, st258⟩ := stC X256 hx hZ101 e256 Ar257 (j := (9 : Int32)) (inb_of S257 ⟨by decide, by decide⟩) (g := (mkF m 459 #[vI p1, vI p2, vI p3, vI p4, vR b101, vI (Int32.ofNat i), vI m6, vI (((p1.toUInt32 >>> ((2 : Int32) &&& 31).toUInt32).toInt32) &&& (3 : Int32)), vI c8, vI a9, vI a10, vI a11, vI a12, vI (p1 &&& (3 : Int32)), vI (smF c8 m6), .unset, .unset, .unset] [(.int 105), (.int 9), (.ref b238), (.ref b238)])) rfl rfl (hb hby at_459)
   rw [own_nc (show ¬ (105 : Int32) < 0 ∧ ¬ (65535 : Int32) < (105 : Int32) by decide)] at W258
   have V258 : Arv Z h258 b238 k238 .char (37 : Int32) [(.int 32), (.int 97), (.int 112), (.int 112), (.int 108), (.int 105), (.int 99), (.int 97), (.int 116), (.int 105), (.int 0), (.int 0), (.int 0), (.int 0), (.int 0), (.int 0), (.int 0), (.int 0), (.int 0), (.int 0), (.int 0), (.int 0), (.int 0), (.int 0), (.int 0), (.int 0), (.int 0), (.int 0), (.int 0), (.int 0), (.int 0), (.int 0), (.int 0), (.int 0), (.int 0), (.int 0), (.int 0)] (.int 0) := Arv.set Ar257 q257 S257 Nn257 H257 G257 (own_fitc (show ¬ (105 : Int32) < 0 ∧ ¬ (65535 : Int32) < (105 : Int32) by decide)) W258 9 rfl (Nat.le_of_ble_eq_true rfl)
   have K258 := Keep.of_wr W258
   have N258 := Fr.snoc X258 N256 (by omega : @LE.le Nat _ n0 b238)
   have hs12_K258 : ∀ x ∈ ([b238] : List Addr), Safe Z EL1 T101.vm h256 x := sfS (Safe.arv hZ101.alike V256 (by decide)) (sf0)
   have cR12_K258 := cR11_K256.trans (CHr.keep K258 hs12_K258 cR11_K256.1)
   have sz12_K258 := K258.1
   obtain ⟨cl259, Ar259, q259, S259, Nn259, H259, G259⟩ := id V258
   obtain ⟨T260, h260, X260, e260, W260, st260⟩ := stC X258 hx hZ101 e258 Ar259 (j := (10 : Int32)) (inb_of S259 ⟨by decide, by decide⟩) (g := (mkF m 465 #[vI p1, vI p2, vI p3, vI p4, vR b101, vI (Int32.ofNat i), vI m6, vI (((p1.toUInt32 >>> ((2 : Int32) &&& 31).toUInt32).toInt32) &&& (3 : Int32)), vI c8, vI a9, vI a10, vI a11, vI a12, vI (p1 &&& (3 : Int32)), vI (smF c8 m6), .unset, .unset, .unset] [(.int 111), (.int 10), (.ref b238), (.ref b238)])) rfl rfl (hb hby at_465)
   rw [own_nc (show ¬ (111 : Int32) < 0 ∧ ¬ (65535 : Int32) < (111 : Int32) by decide)] at W260
   have V260 : Arv Z h260 b238 k238 .char (37 : Int32) [(.int 32), (.int 97), (.int 112), (.int 112), (.int 108), (.int 105), (.int 99), (.int 97), (.int 116), (.int 105), (.int 111), (.int 0), (.int 0), (.int 0), (.int 0), (.int 0), (.int 0), (.int 0), (.int 0), (.int 0), (.int 0), (.int 0), (.int 0), (.int 0), (.int 0), (.int 0), (.int 0), (.int 0), (.int 0), (.int 0), (.int 0), (.int 0), (.int 0), (.int 0), (.int 0), (.int 0), (.int 0)] (.int 0) := Arv.set Ar259 q259 S259 Nn259 H259 G259 (own_fitc (show ¬ (111 : Int32) < 0 ∧ ¬ (65535 : Int32) < (111 : Int32) by decide)) W260 10 rfl (Nat.le_of_ble_eq_true rfl)
   have K260 := Keep.of_wr W260
   have N260 := Fr.snoc X260 N258 (by omega : @LE.le Nat _ n0 b238)
   have hs13_K260 : ∀ x ∈ ([b238] : List Addr), Safe Z EL1 T101.vm h258 x := sfS (Safe.arv hZ101.alike V258 (by decide)) (sf0)
   have cR13_K260 := cR12_K258.trans (CHr.keep K260 hs13_K260 cR12_K258.1)
   have sz13_K260 := K260.1
   obtain ⟨cl261, Ar261, q261, S261, Nn261, H261, G261⟩ := id V260
   obtain ⟨T262, h262, X262, e262, W262, st262⟩ := stC X260 hx hZ101 e260 Ar261 (j := (11 : Int32)) (inb_of S261 ⟨by decide, by decide⟩) (g := (mkF m 471 #[vI p1, vI p2, vI p3, vI p4, vR b101, vI (Int32.ofNat i), vI m6, vI (((p1.toUInt32 >>> ((2 : Int32) &&& 31).toUInt32).toInt32) &&& (3 : Int32)), vI c8, vI a9, vI a10, vI a11, vI a12, vI (p1 &&& (3 : Int32)), vI (smF c8 m6), .unset, .unset, .unset] [(.int 110), (.int 11), (.ref b238), (.ref b238)])) rfl rfl (hb hby at_471)
   rw [own_nc (show ¬ (110 : Int32) < 0 ∧ ¬ (65535 : Int32) < (110 : Int32) by decide)] at W262
   have V262 : Arv Z h262 b238 k238 .char (37 : Int32) [(.int 32), (.int 97), (.int 112), (.int 112), (.int 108), (.int 105), (.int 99), (.int 97), (.int 116), (.int 105), (.int 111), (.int 110), (.int 0), (.int 0), (.int 0), (.int 0), (.int 0), (.int 0), (.int 0), (.int 0), (.int 0), (.int 0), (.int 0), (.int 0), (.int 0), (.int 0), (.int 0), (.int 0), (.int 0), (.int 0), (.int 0), (.int 0), (.int 0), (.int 0), (.int 0), (.int 0), (.int 0)] (.int 0) := Arv.set Ar261 q261 S261 Nn261 H261 G261 (own_fitc (show ¬ (110 : Int32) < 0 ∧ ¬ (65535 : Int32) < (110 : Int32) by decide)) W262 11 rfl (Nat.le_of_ble_eq_true rfl)
   have K262 := Keep.of_wr W262
   have N262 := Fr.snoc X262 N260 (by omega : @LE.le Nat _ n0 b238)
   have hs14_K262 : ∀ x ∈ ([b238] : List Addr), Safe Z EL1 T101.vm h260 x := sfS (Safe.arv hZ101.alike V260 (by decide)) (sf0)
   have cR14_K262 := cR13_K260.trans (CHr.keep K262 hs14_K262 cR13_K260.1)
   have sz14_K262 := K262.1
   obtain ⟨cl263, Ar263, q263, S263, Nn263, H263, G263⟩ := id V262
   obtain ⟨T264, h264, X264, e264, W264, st264⟩ := stC X262 hx hZ101 e262 Ar263 (j := (12 : Int32)) (inb_of S263 ⟨by decide, by decide⟩) (g := (mkF m 477 #[vI p1, vI p2, vI p3, vI p4, vR b101, vI (Int32.ofNat i), vI m6, vI (((p1.toUInt32 >>> ((2 : Int32) &&& 31).toUInt32).toInt32) &&& (3 : Int32)), vI c8, vI a9, vI a10, vI a11, vI a12, vI (p1 &&& (3 : Int32)), vI (smF c8 m6), .unset, .unset, .unset] [(.int 47), (.int 12), (.ref b238), (.ref b238)])) rfl rfl (hb hby at_477)
   rw [own_nc (show ¬ (47 : Int32) < 0 ∧ ¬ (65535 : Int32) < (47 : Int32) by decide)] at W264
   have V264 : Arv Z h264 b238 k238 .char (37 : Int32) [(.int 32), (.int 97), (.int 112), (.int 112), (.int 108), (.int 105), (.int 99), (.int 97), (.int 116), (.int 105), (.int 111), (.int 110), (.int 47), (.int 0), (.int 0), (.int 0), (.int 0), (.int 0), (.int 0), (.int 0), (.int 0), (.int 0), (.int 0), (.int 0), (.int 0), (.int 0), (.int 0), (.int 0), (.int 0), (.int 0), (.int 0), (.int 0), (.int 0), (.int 0), (.int 0), (.int 0), (.int 0)] (.int 0) := Arv.set Ar263 q263 S263 Nn263 H263 G263 (own_fitc (show ¬ (47 : Int32) < 0 ∧ ¬ (65535 : Int32) < (47 : Int32) by decide)) W264 12 rfl (Nat.le_of_ble_eq_true rfl)
   have K264 := Keep.of_wr W264
   have N264 := Fr.snoc X264 N262 (by omega : @LE.le Nat _ n0 b238)
   have hs15_K264 : ∀ x ∈ ([b238] : List Addr), Safe Z EL1 T101.vm h262 x := sfS (Safe.arv hZ101.alike V262 (by decide)) (sf0)
   have cR15_K264 := cR14_K262.trans (CHr.keep K264 hs15_K264 cR14_K262.1)
   have sz15_K264 := K264.1
   obtain ⟨cl265, Ar265, q265, S265, Nn265, H265, G265⟩ := id V264
   obtain ⟨T266, h266, X266, e266, W266, st266⟩ := stC X264 hx hZ101 e264 Ar265 (j := (13 : Int32)) (inb_of S265 ⟨by decide, by decide⟩) (g := (mkF m 483 #[vI p1, vI p2, vI p3, vI p4, vR b101, vI (Int32.ofNat i), vI m6, vI (((p1.toUInt32 >>> ((2 : Int32) &&& 31).toUInt32).toInt32) &&& (3 : Int32)), vI c8, vI a9, vI a10, vI a11, vI a12, vI (p1 &&& (3 : Int32)), vI (smF c8 m6), .unset, .unset, .unset] [(.int 120), (.int 13), (.ref b238), (.ref b238)])) rfl rfl (hb hby at_483)
   rw [own_nc (show ¬ (120 : Int32) < 0 ∧ ¬ (65535 : Int32) < (120 : Int32) by decide)] at W266
   have V266 : Arv Z h266 b238 k238 .char (37 : Int32) [(.int 32), (.int 97), (.int 112), (.int 112), (.int 108), (.int 105), (.int 99), (.int 97), (.int 116), (.int 105), (.int 111), (.int 110), (.int 47), (.int 120), (.int 0), (.int 0), (.int 0), (.int 0), (.int 0), (.int 0), (.int 0), (.int 0), (.int 0), (.int 0), (.int 0), (.int 0), (.int 0), (.int 0), (.int 0), (.int 0), (.int 0), (.int 0), (.int 0), (.int 0), (.int 0), (.int 0), (.int 0)] (.int 0) := Arv.set Ar265 q265 S265 Nn265 H265 G265 (own_fitc (show ¬ (120 : Int32) < 0 ∧ ¬ (65535 : Int32) < (120 : Int32) by decide)) W266 13 rfl (Nat.le_of_ble_eq_true rfl)
   have K266 := Keep.of_wr W266
   have N266 := Fr.snoc X266 N264 (by omega : @LE.le Nat _ n0 b238)
   have hs16_K266 : ∀ x ∈ ([b238] : List Addr), Safe Z EL1 T101.vm h264 x := sfS (Safe.arv hZ101.alike V264 (by decide)) (sf0)
   have cR16_K266 := cR15_K264.trans (CHr.keep K266 hs16_K266 cR15_K264.1)
   have sz16_K266 := K266.1
   obtain ⟨cl267, Ar267, q267, S267, Nn267, H267, G267⟩ := id V266
   obtain ⟨T268, h268, X268, e268, W268, st268⟩ := stC X266 hx hZ101 e266 Ar267 (j := (14 : Int32)) (inb_of S267 ⟨by decide, by decide⟩) (g := (mkF m 489 #[vI p1, vI p2, vI p3, vI p4, vR b101, vI (Int32.ofNat i), vI m6, vI (((p1.toUInt32 >>> ((2 : Int32) &&& 31).toUInt32).toInt32) &&& (3 : Int32)), vI c8, vI a9, vI a10, vI a11, vI a12, vI (p1 &&& (3 : Int32)), vI (smF c8 m6), .unset, .unset, .unset] [(.int 45), (.int 14), (.ref b238), (.ref b238)])) rfl rfl (hb hby at_489)
   rw [own_nc (show ¬ (45 : Int32) < 0 ∧ ¬ (65535 : Int32) < (45 : Int32) by decide)] at W268
   have V268 : Arv Z h268 b238 k238 .char (37 : Int32) [(.int 32), (.int 97), (.int 112), (.int 112), (.int 108), (.int 105), (.int 99), (.int 97), (.int 116), (.int 105), (.int 111), (.int 110), (.int 47), (.int 120), (.int 45), (.int 0), (.int 0), (.int 0), (.int 0), (.int 0), (.int 0), (.int 0), (.int 0), (.int 0), (.int 0), (.int 0), (.int 0), (.int 0), (.int 0), (.int 0), (.int 0), (.int 0), (.int 0), (.int 0), (.int 0), (.int 0), (.int 0)] (.int 0) := Arv.set Ar267 q267 S267 Nn267 H267 G267 (own_fitc (show ¬ (45 : Int32) < 0 ∧ ¬ (65535 : Int32) < (45 : Int32) by decide)) W268 14 rfl (Nat.le_of_ble_eq_true rfl)
   have K268 := Keep.of_wr W268
   have N268 := Fr.snoc X268 N266 (by omega : @LE.le Nat _ n0 b238)
   have hs17_K268 : ∀ x ∈ ([b238] : List Addr), Safe Z EL1 T101.vm h266 x := sfS (Safe.arv hZ101.alike V266 (by decide)) (sf0)
   have cR17_K268 := cR16_K266.trans (CHr.keep K268 hs17_K268 cR16_K266.1)
   have sz17_K268 := K268.1
   obtain ⟨cl269, Ar269, q269, S269, Nn269, H269, G269⟩ := id V268
   obtain ⟨T270, h270, X270, e270, W270, st270⟩ := stC X268 hx hZ101 e268 Ar269 (j := (15 : Int32)) (inb_of S269 ⟨by decide, by decide⟩) (g := (mkF m 495 #[vI p1, vI p2, vI p3, vI p4, vR b101, vI (Int32.ofNat i), vI m6, vI (((p1.toUInt32 >>> ((2 : Int32) &&& 31).toUInt32).toInt32) &&& (3 : Int32)), vI c8, vI a9, vI a10, vI a11, vI a12, vI (p1 &&& (3 : Int32)), vI (smF c8 m6), .unset, .unset, .unset] [(.int 119), (.int 15), (.ref b238), (.ref b238)])) rfl rfl (hb hby at_495)
   rw [own_nc (show ¬ (119 : Int32) < 0 ∧ ¬ (65535 : Int32) < (119 : Int32) by decide)] at W270
   have V270 : Arv Z h270 b238 k238 .char (37 : Int32) [(.int 32), (.int 97), (.int 112), (.int 112), (.int 108), (.int 105), (.int 99), (.int 97), (.int 116), (.int 105), (.int 111), (.int 110), (.int 47), (.int 120), (.int 45), (.int 119), (.int 0), (.int 0), (.int 0), (.int 0), (.int 0), (.int 0), (.int 0), (.int 0), (.int 0), (.int 0), (.int 0), (.int 0), (.int 0), (.int 0), (.int 0), (.int 0), (.int 0), (.int 0), (.int 0), (.int 0), (.int 0)] (.int 0) := Arv.set Ar269 q269 S269 Nn269 H269 G269 (own_fitc (show ¬ (119 : Int32) < 0 ∧ ¬ (65535 : Int32) < (119 : Int32) by decide)) W270 15 rfl (Nat.le_of_ble_eq_true rfl)
   have K270 := Keep.of_wr W270
   have N270 := Fr.snoc X270 N268 (by omega : @LE.le Nat _ n0 b238)
   have hs18_K270 : ∀ x ∈ ([b238] : List Addr), Safe Z EL1 T101.vm h268 x := sfS (Safe.arv hZ101.alike V268 (by decide)) (sf0)
   have cR18_K270 := cR17_K268.trans (CHr.keep K270 hs18_K270 cR17_K268.1)
   have sz18_K270 := K270.1
   obtain ⟨cl271, Ar271, q271, S271, Nn271, H271, G271⟩ := id V270
   obtain ⟨T272, h272, X272, e272, W272, st272⟩ := stC X270 hx hZ101 e270 Ar271 (j := (16 : Int32)) (inb_of S271 ⟨by decide, by decide⟩) (g := (mkF m 501 #[vI p1, vI p2, vI p3, vI p4, vR b101, vI (Int32.ofNat i), vI m6, vI (((p1.toUInt32 >>> ((2 : Int32) &&& 31).toUInt32).toInt32) &&& (3 : Int32)), vI c8, vI a9, vI a10, vI a11, vI a12, vI (p1 &&& (3 : Int32)), vI (smF c8 m6), .unset, .unset, .unset] [(.int 119), (.int 16), (.ref b238), (.ref b238)])) rfl rfl (hb hby at_501)
   rw [own_nc (show ¬ (119 : Int32) < 0 ∧ ¬ (65535 : Int32) < (119 : Int32) by decide)] at W272
   have V272 : Arv Z h272 b238 k238 .char (37 : Int32) [(.int 32), (.int 97), (.int 112), (.int 112), (.int 108), (.int 105), (.int 99), (.int 97), (.int 116), (.int 105), (.int 111), (.int 110), (.int 47), (.int 120), (.int 45), (.int 119), (.int 119), (.int 0), (.int 0), (.int 0), (.int 0), (.int 0), (.int 0), (.int 0), (.int 0), (.int 0), (.int 0), (.int 0), (.int 0), (.int 0), (.int 0), (.int 0), (.int 0), (.int 0), (.int 0), (.int 0), (.int 0)] (.int 0) := Arv.set Ar271 q271 S271 Nn271 H271 G271 (own_fitc (show ¬ (119 : Int32) < 0 ∧ ¬ (65535 : Int32) < (119 : Int32) by decide)) W272 16 rfl (Nat.le_of_ble_eq_true rfl)
   have K272 := Keep.of_wr W272
   have N272 := Fr.snoc X272 N270 (by omega : @LE.le Nat _ n0 b238)
   have hs19_K272 : ∀ x ∈ ([b238] : List Addr), Safe Z EL1 T101.vm h270 x := sfS (Safe.arv hZ101.alike V270 (by decide)) (sf0)
   have cR19_K272 := cR18_K270.trans (CHr.keep K272 hs19_K272 cR18_K270.1)
   have sz19_K272 := K272.1
   obtain ⟨cl273, Ar273, q273, S273, Nn273, H273, G273⟩ := id V272
   obtain ⟨T274, h274, X274, e274, W274, st274⟩ := stC X272 hx hZ101 e272 Ar273 (j := (17 : Int32)) (inb_of S273 ⟨by decide, by decide⟩) (g := (mkF m 507 #[vI p1, vI p2, vI p3, vI p4, vR b101, vI (Int32.ofNat i), vI m6, vI (((p1.toUInt32 >>> ((2 : Int32) &&& 31).toUInt32).toInt32) &&& (3 : Int32)), vI c8, vI a9, vI a10, vI a11, vI a12, vI (p1 &&& (3 : Int32)), vI (smF c8 m6), .unset, .unset, .unset] [(.int 119), (.int 17), (.ref b238), (.ref b238)])) rfl rfl (hb hby at_507)
   rw [own_nc (show ¬ (119 : Int32) < 0 ∧ ¬ (65535 : Int32) < (119 : Int32) by decide)] at W274
   have V274 : Arv Z h274 b238 k238 .char (37 : Int32) [(.int 32), (.int 97), (.int 112), (.int 112), (.int 108), (.int 105), (.int 99), (.int 97), (.int 116), (.int 105), (.int 111), (.int 110), (.int 47), (.int 120), (.int 45), (.int 119), (.int 119), (.int 119), (.int 0), (.int 0), (.int 0), (.int 0), (.int 0), (.int 0), (.int 0), (.int 0), (.int 0), (.int 0), (.int 0), (.int 0), (.int 0), (.int 0), (.int 0), (.int 0), (.int 0), (.int 0), (.int 0)] (.int 0) := Arv.set Ar273 q273 S273 Nn273 H273 G273 (own_fitc (show ¬ (119 : Int32) < 0 ∧ ¬ (65535 : Int32) < (119 : Int32) by decide)) W274 17 rfl (Nat.le_of_ble_eq_true rfl)
   have K274 := Keep.of_wr W274
   have N274 := Fr.snoc X274 N272 (by omega : @LE.le Nat _ n0 b238)
   have hs20_K274 : ∀ x ∈ ([b238] : List Addr), Safe Z EL1 T101.vm h272 x := sfS (Safe.arv hZ101.alike V272 (by decide)) (sf0)
   have cR20_K274 := cR19_K272.trans (CHr.keep K274 hs20_K274 cR19_K272.1)
   have sz20_K274 := K274.1
   obtain ⟨cl275, Ar275, q275, S275, Nn275, H275, G275⟩ := id V274
   obtain ⟨T276, h276, X276, e276, W276, st276⟩ := stC X274 hx hZ101 e274 Ar275 (j := (18 : Int32)) (inb_of S275 ⟨by decide, by decide⟩) (g := (mkF m 513 #[vI p1, vI p2, vI p3, vI p4, vR b101, vI (Int32.ofNat i), vI m6, vI (((p1.toUInt32 >>> ((2 : Int32) &&& 31).toUInt32).toInt32) &&& (3 : Int32)), vI c8, vI a9, vI a10, vI a11, vI a12, vI (p1 &&& (3 : Int32)), vI (smF c8 m6), .unset, .unset, .unset] [(.int 45), (.int 18), (.ref b238), (.ref b238)])) rfl rfl (hb hby at_513)
   rw [own_nc (show ¬ (45 : Int32) < 0 ∧ ¬ (65535 : Int32) < (45 : Int32) by decide)] at W276
   have V276 : Arv Z h276 b238 k238 .char (37 : Int32) [(.int 32), (.int 97), (.int 112), (.int 112), (.int 108), (.int 105), (.int 99), (.int 97), (.int 116), (.int 105), (.int 111), (.int 110), (.int 47), (.int 120), (.int 45), (.int 119), (.int 119), (.int 119), (.int 45), (.int 0), (.int 0), (.int 0), (.int 0), (.int 0), (.int 0), (.int 0), (.int 0), (.int 0), (.int 0), (.int 0), (.int 0), (.int 0), (.int 0), (.int 0), (.int 0), (.int 0), (.int 0)] (.int 0) := Arv.set Ar275 q275 S275 Nn275 H275 G275 (own_fitc (show ¬ (45 : Int32) < 0 ∧ ¬ (65535 : Int32) < (45 : Int32) by decide)) W276 18 rfl (Nat.le_of_ble_eq_true rfl)
   have K276 := Keep.of_wr W276
   have N276 := Fr.snoc X276 N274 (by omega : @LE.le Nat _ n0 b238)
   have hs21_K276 : ∀ x ∈ ([b238] : List Addr), Safe Z EL1 T101.vm h274 x := sfS (Safe.arv hZ101.alike V274 (by decide)) (sf0)
   have cR21_K276 := cR20_K274.trans (CHr.keep K276 hs21_K276 cR20_K274.1)
   have sz21_K276 := K276.1
   obtain ⟨cl277, Ar277, q277, S277, Nn277, H277, G277⟩ := id V276
   obtain ⟨T278, h278, X278, e278, W278, st278⟩ := stC X276 hx hZ101 e276 Ar277 (j := (19 : Int32)) (inb_of S277 ⟨by decide, by decide⟩) (g := (mkF m 519 #[vI p1, vI p2, vI p3, vI p4, vR b101, vI (Int32.ofNat i), vI m6, vI (((p1.toUInt32 >>> ((2 : Int32) &&& 31).toUInt32).toInt32) &&& (3 : Int32)), vI c8, vI a9, vI a10, vI a11, vI a12, vI (p1 &&& (3 : Int32)), vI (smF c8 m6), .unset, .unset, .unset] [(.int 102), (.int 19), (.ref b238), (.ref b238)])) rfl rfl (hb hby at_519)
   rw [own_nc (show ¬ (102 : Int32) < 0 ∧ ¬ (65535 : Int32) < (102 : Int32) by decide)] at W278
   have V278 : Arv Z h278 b238 k238 .char (37 : Int32) [(.int 32), (.int 97), (.int 112), (.int 112), (.int 108), (.int 105), (.int 99), (.int 97), (.int 116), (.int 105), (.int 111), (.int 110), (.int 47), (.int 120), (.int 45), (.int 119), (.int 119), (.int 119), (.int 45), (.int 102), (.int 0), (.int 0), (.int 0), (.int 0), (.int 0), (.int 0), (.int 0), (.int 0), (.int 0), (.int 0), (.int 0), (.int 0), (.int 0), (.int 0), (.int 0), (.int 0), (.int 0)] (.int 0) := Arv.set Ar277 q277 S277 Nn277 H277 G277 (own_fitc (show ¬ (102 : Int32) < 0 ∧ ¬ (65535 : Int32) < (102 : Int32) by decide)) W278 19 rfl (Nat.le_of_ble_eq_true rfl)
   have K278 := Keep.of_wr W278
   have N278 := Fr.snoc X278 N276 (by omega : @LE.le Nat _ n0 b238)
   have hs22_K278 : ∀ x ∈ ([b238] : List Addr), Safe Z EL1 T101.vm h276 x := sfS (Safe.arv hZ101.alike V276 (by decide)) (sf0)
   have cR22_K278 := cR21_K276.trans (CHr.keep K278 hs22_K278 cR21_K276.1)
   have sz22_K278 := K278.1
   obtain ⟨cl279, Ar279, q279, S279, Nn279, H279, G279⟩ := id V278
   obtain ⟨T280, h280, X280, e280, W280, st280⟩ := stC X278 hx hZ101 e278 Ar279 (j := (20 : Int32)) (inb_of S279 ⟨by decide, by decide⟩) (g := (mkF m 525 #[vI p1, vI p2, vI p3, vI p4, vR b101, vI (Int32.ofNat i), vI m6, vI (((p1.toUInt32 >>> ((2 : Int32) &&& 31).toUInt32).toInt32) &&& (3 : Int32)), vI c8, vI a9, vI a10, vI a11, vI a12, vI (p1 &&& (3 : Int32)), vI (smF c8 m6), .unset, .unset, .unset] [(.int 111), (.int 20), (.ref b238), (.ref b238)])) rfl rfl (hb hby at_525)
   rw [own_nc (show ¬ (111 : Int32) < 0 ∧ ¬ (65535 : Int32) < (111 : Int32) by decide)] at W280
   have V280 : Arv Z h280 b238 k238 .char (37 : Int32) [(.int 32), (.int 97), (.int 112), (.int 112), (.int 108), (.int 105), (.int 99), (.int 97), (.int 116), (.int 105), (.int 111), (.int 110), (.int 47), (.int 120), (.int 45), (.int 119), (.int 119), (.int 119), (.int 45), (.int 102), (.int 111), (.int 0), (.int 0), (.int 0), (.int 0), (.int 0), (.int 0), (.int 0), (.int 0), (.int 0), (.int 0), (.int 0), (.int 0), (.int 0), (.int 0), (.int 0), (.int 0)] (.int 0) := Arv.set Ar279 q279 S279 Nn279 H279 G279 (own_fitc (show ¬ (111 : Int32) < 0 ∧ ¬ (65535 : Int32) < (111 : Int32) by decide)) W280 20 rfl (Nat.le_of_ble_eq_true rfl)
   have K280 := Keep.of_wr W280
   have N280 := Fr.snoc X280 N278 (by omega : @LE.le Nat _ n0 b238)
   have hs23_K280 : ∀ x ∈ ([b238] : List Addr), Safe Z EL1 T101.vm h278 x := sfS (Safe.arv hZ101.alike V278 (by decide)) (sf0)
   have cR23_K280 := cR22_K278.trans (CHr.keep K280 hs23_K280 cR22_K278.1)
   have sz23_K280 := K280.1
   obtain ⟨cl281, Ar281, q281, S281, Nn281, H281, G281⟩ := id V280
   obtain ⟨T282, h282, X282, e282, W282, st282⟩ := stC X280 hx hZ101 e280 Ar281 (j := (21 : Int32)) (inb_of S281 ⟨by decide, by decide⟩) (g := (mkF m 531 #[vI p1, vI p2, vI p3, vI p4, vR b101, vI (Int32.ofNat i), vI m6, vI (((p1.toUInt32 >>> ((2 : Int32) &&& 31).toUInt32).toInt32) &&& (3 : Int32)), vI c8, vI a9, vI a10, vI a11, vI a12, vI (p1 &&& (3 : Int32)), vI (smF c8 m6), .unset, .unset, .unset] [(.int 114), (.int 21), (.ref b238), (.ref b238)])) rfl rfl (hb hby at_531)
   rw [own_nc (show ¬ (114 : Int32) < 0 ∧ ¬ (65535 : Int32) < (114 : Int32) by decide)] at W282
   have V282 : Arv Z h282 b238 k238 .char (37 : Int32) [(.int 32), (.int 97), (.int 112), (.int 112), (.int 108), (.int 105), (.int 99), (.int 97), (.int 116), (.int 105), (.int 111), (.int 110), (.int 47), (.int 120), (.int 45), (.int 119), (.int 119), (.int 119), (.int 45), (.int 102), (.int 111), (.int 114), (.int 0), (.int 0), (.int 0), (.int 0), (.int 0), (.int 0), (.int 0), (.int 0), (.int 0), (.int 0), (.int 0), (.int 0), (.int 0), (.int 0), (.int 0)] (.int 0) := Arv.set Ar281 q281 S281 Nn281 H281 G281 (own_fitc (show ¬ (114 : Int32) < 0 ∧ ¬ (65535 : Int32) < (114 : Int32) by decide)) W282 21 rfl (Nat.le_of_ble_eq_true rfl)
   have K282 := Keep.of_wr W282
   have N282 := Fr.snoc X282 N280 (by omega : @LE.le Nat _ n0 b238)
   have hs24_K282 : ∀ x ∈ ([b238] : List Addr), Safe Z EL1 T101.vm h280 x := sfS (Safe.arv hZ101.alike V280 (by decide)) (sf0)
   have cR24_K282 := cR23_K280.trans (CHr.keep K282 hs24_K282 cR23_K280.1)
   have sz24_K282 := K282.1
   obtain ⟨cl283, Ar283, q283, S283, Nn283, H283, G283⟩ := id V282
   obtain ⟨T284, h284, X284, e284, W284, st284⟩ := stC X282 hx hZ101 e282 Ar283 (j := (22 : Int32)) (inb_of S283 ⟨by decide, by decide⟩) (g := (mkF m 537 #[vI p1, vI p2, vI p3, vI p4, vR b101, vI (Int32.ofNat i), vI m6, vI (((p1.toUInt32 >>> ((2 : Int32) &&& 31).toUInt32).toInt32) &&& (3 : Int32)), vI c8, vI a9, vI a10, vI a11, vI a12, vI (p1 &&& (3 : Int32)), vI (smF c8 m6), .unset, .unset, .unset] [(.int 109), (.int 22), (.ref b238), (.ref b238)])) rfl rfl (hb hby at_537)
   rw [own_nc (show ¬ (109 : Int32) < 0 ∧ ¬ (65535 : Int32) < (109 : Int32) by decide)] at W284
   have V284 : Arv Z h284 b238 k238 .char (37 : Int32) [(.int 32), (.int 97), (.int 112), (.int 112), (.int 108), (.int 105), (.int 99), (.int 97), (.int 116), (.int 105), (.int 111), (.int 110), (.int 47), (.int 120), (.int 45), (.int 119), (.int 119), (.int 119), (.int 45), (.int 102), (.int 111), (.int 114), (.int 109), (.int 0), (.int 0), (.int 0), (.int 0), (.int 0), (.int 0), (.int 0), (.int 0), (.int 0), (.int 0), (.int 0), (.int 0), (.int 0), (.int 0)] (.int 0) := Arv.set Ar283 q283 S283 Nn283 H283 G283 (own_fitc (show ¬ (109 : Int32) < 0 ∧ ¬ (65535 : Int32) < (109 : Int32) by decide)) W284 22 rfl (Nat.le_of_ble_eq_true rfl)
   have K284 := Keep.of_wr W284
   have N284 := Fr.snoc X284 N282 (by omega : @LE.le Nat _ n0 b238)
   have hs25_K284 : ∀ x ∈ ([b238] : List Addr), Safe Z EL1 T101.vm h282 x := sfS (Safe.arv hZ101.alike V282 (by decide)) (sf0)
   have cR25_K284 := cR24_K282.trans (CHr.keep K284 hs25_K284 cR24_K282.1)
   have sz25_K284 := K284.1
   obtain ⟨cl285, Ar285, q285, S285, Nn285, H285, G285⟩ := id V284
   obtain ⟨T286, h286, X286, e286, W286, st286⟩ := stC X284 hx hZ101 e284 Ar285 (j := (23 : Int32)) (inb_of S285 ⟨by decide, by decide⟩) (g := (mkF m 543 #[vI p1, vI p2, vI p3, vI p4, vR b101, vI (Int32.ofNat i), vI m6, vI (((p1.toUInt32 >>> ((2 : Int32) &&& 31).toUInt32).toInt32) &&& (3 : Int32)), vI c8, vI a9, vI a10, vI a11, vI a12, vI (p1 &&& (3 : Int32)), vI (smF c8 m6), .unset, .unset, .unset] [(.int 45), (.int 23), (.ref b238), (.ref b238)])) rfl rfl (hb hby at_543)
   rw [own_nc (show ¬ (45 : Int32) < 0 ∧ ¬ (65535 : Int32) < (45 : Int32) by decide)] at W286
   have V286 : Arv Z h286 b238 k238 .char (37 : Int32) [(.int 32), (.int 97), (.int 112), (.int 112), (.int 108), (.int 105), (.int 99), (.int 97), (.int 116), (.int 105), (.int 111), (.int 110), (.int 47), (.int 120), (.int 45), (.int 119), (.int 119), (.int 119), (.int 45), (.int 102), (.int 111), (.int 114), (.int 109), (.int 45), (.int 0), (.int 0), (.int 0), (.int 0), (.int 0), (.int 0), (.int 0), (.int 0), (.int 0), (.int 0), (.int 0), (.int 0), (.int 0)] (.int 0) := Arv.set Ar285 q285 S285 Nn285 H285 G285 (own_fitc (show ¬ (45 : Int32) < 0 ∧ ¬ (65535 : Int32) < (45 : Int32) by decide)) W286 23 rfl (Nat.le_of_ble_eq_true rfl)
   have K286 := Keep.of_wr W286
   have N286 := Fr.snoc X286 N284 (by omega : @LE.le Nat _ n0 b238)
   have hs26_K286 : ∀ x ∈ ([b238] : List Addr), Safe Z EL1 T101.vm h284 x := sfS (Safe.arv hZ101.alike V284 (by decide)) (sf0)
   have cR26_K286 := cR25_K284.trans (CHr.keep K286 hs26_K286 cR25_K284.1)
   have sz26_K286 := K286.1
   obtain ⟨cl287, Ar287, q287, S287, Nn287, H287, G287⟩ := id V286
   obtain ⟨T288, h288, X288, e288, W288, st288⟩ := stC X286 hx hZ101 e286 Ar287 (j := (24 : Int32)) (inb_of S287 ⟨by decide, by decide⟩) (g := (mkF m 549 #[vI p1, vI p2, vI p3, vI p4, vR b101, vI (Int32.ofNat i), vI m6, vI (((p1.toUInt32 >>> ((2 : Int32) &&& 31).toUInt32).toInt32) &&& (3 : Int32)), vI c8, vI a9, vI a10, vI a11, vI a12, vI (p1 &&& (3 : Int32)), vI (smF c8 m6), .unset, .unset, .unset] [(.int 117), (.int 24), (.ref b238), (.ref b238)])) rfl rfl (hb hby at_549)
   rw [own_nc (show ¬ (117 : Int32) < 0 ∧ ¬ (65535 : Int32) < (117 : Int32) by decide)] at W288
   have V288 : Arv Z h288 b238 k238 .char (37 : Int32) [(.int 32), (.int 97), (.int 112), (.int 112), (.int 108), (.int 105), (.int 99), (.int 97), (.int 116), (.int 105), (.int 111), (.int 110), (.int 47), (.int 120), (.int 45), (.int 119), (.int 119), (.int 119), (.int 45), (.int 102), (.int 111), (.int 114), (.int 109), (.int 45), (.int 117), (.int 0), (.int 0), (.int 0), (.int 0), (.int 0), (.int 0), (.int 0), (.int 0), (.int 0), (.int 0), (.int 0), (.int 0)] (.int 0) := Arv.set Ar287 q287 S287 Nn287 H287 G287 (own_fitc (show ¬ (117 : Int32) < 0 ∧ ¬ (65535 : Int32) < (117 : Int32) by decide)) W288 24 rfl (Nat.le_of_ble_eq_true rfl)
   have K288 := Keep.of_wr W288
   have N288 := Fr.snoc X288 N286 (by omega : @LE.le Nat _ n0 b238)
   have hs27_K288 : ∀ x ∈ ([b238] : List Addr), Safe Z EL1 T101.vm h286 x := sfS (Safe.arv hZ101.alike V286 (by decide)) (sf0)
   have cR27_K288 := cR26_K286.trans (CHr.keep K288 hs27_K288 cR26_K286.1)
   have sz27_K288 := K288.1
   obtain ⟨cl289, Ar289, q289, S289, Nn289, H289, G289⟩ := id V288
   obtain ⟨T290, h290, X290, e290, W290, st290⟩ := stC X288 hx hZ101 e288 Ar289 (j := (25 : Int32)) (inb_of S289 ⟨by decide, by decide⟩) (g := (mkF m 555 #[vI p1, vI p2, vI p3, vI p4, vR b101, vI (Int32.ofNat i), vI m6, vI (((p1.toUInt32 >>> ((2 : Int32) &&& 31).toUInt32).toInt32) &&& (3 : Int32)), vI c8, vI a9, vI a10, vI a11, vI a12, vI (p1 &&& (3 : Int32)), vI (smF c8 m6), .unset, .unset, .unset] [(.int 114), (.int 25), (.ref b238), (.ref b238)])) rfl rfl (hb hby at_555)
   rw [own_nc (show ¬ (114 : Int32) < 0 ∧ ¬ (65535 : Int32) < (114 : Int32) by decide)] at W290
   have V290 : Arv Z h290 b238 k238 .char (37 : Int32) [(.int 32), (.int 97), (.int 112), (.int 112), (.int 108), (.int 105), (.int 99), (.int 97), (.int 116), (.int 105), (.int 111), (.int 110), (.int 47), (.int 120), (.int 45), (.int 119), (.int 119), (.int 119), (.int 45), (.int 102), (.int 111), (.int 114), (.int 109), (.int 45), (.int 117), (.int 114), (.int 0), (.int 0), (.int 0), (.int 0), (.int 0), (.int 0), (.int 0), (.int 0), (.int 0), (.int 0), (.int 0)] (.int 0) := Arv.set Ar289 q289 S289 Nn289 H289 G289 (own_fitc (show ¬ (114 : Int32) < 0 ∧ ¬ (65535 : Int32) < (114 : Int32) by decide)) W290 25 rfl (Nat.le_of_ble_eq_true rfl)
   have K290 := Keep.of_wr W290
   have N290 := Fr.snoc X290 N288 (by omega : @LE.le Nat _ n0 b238)
   have hs28_K290 : ∀ x ∈ ([b238] : List Addr), Safe Z EL1 T101.vm h288 x := sfS (Safe.arv hZ101.alike V288 (by decide)) (sf0)
   have cR28_K290 := cR27_K288.trans (CHr.keep K290 hs28_K290 cR27_K288.1)
   have sz28_K290 := K290.1
   obtain ⟨cl291, Ar291, q291, S291, Nn291, H291, G291⟩ := id V290
   obtain ⟨T292, h292, X292, e292, W292, st292⟩ := stC X290 hx hZ101 e290 Ar291 (j := (26 : Int32)) (inb_of S291 ⟨by decide, by decide⟩) (g := (mkF m 561 #[vI p1, vI p2, vI p3, vI p4, vR b101, vI (Int32.ofNat i), vI m6, vI (((p1.toUInt32 >>> ((2 : Int32) &&& 31).toUInt32).toInt32) &&& (3 : Int32)), vI c8, vI a9, vI a10, vI a11, vI a12, vI (p1 &&& (3 : Int32)), vI (smF c8 m6), .unset, .unset, .unset] [(.int 108), (.int 26), (.ref b238), (.ref b238)])) rfl rfl (hb hby at_561)
   rw [own_nc (show ¬ (108 : Int32) < 0 ∧ ¬ (65535 : Int32) < (108 : Int32) by decide)] at W292
   have V292 : Arv Z h292 b238 k238 .char (37 : Int32) [(.int 32), (.int 97), (.int 112), (.int 112), (.int 108), (.int 105), (.int 99), (.int 97), (.int 116), (.int 105), (.int 111), (.int 110), (.int 47), (.int 120), (.int 45), (.int 119), (.int 119), (.int 119), (.int 45), (.int 102), (.int 111), (.int 114), (.int 109), (.int 45), (.int 117), (.int 114), (.int 108), (.int 0), (.int 0), (.int 0), (.int 0), (.int 0), (.int 0), (.int 0), (.int 0), (.int 0), (.int 0)] (.int 0) := Arv.set Ar291 q291 S291 Nn291 H291 G291 (own_fitc (show ¬ (108 : Int32) < 0 ∧ ¬ (65535 : Int32) < (108 : Int32) by decide)) W292 26 rfl (Nat.le_of_ble_eq_true rfl)
   have K292 := Keep.of_wr W292
   have N292 := Fr.snoc X292 N290 (by omega : @LE.le Nat _ n0 b238)
   have hs29_K292 : ∀ x ∈ ([b238] : List Addr), Safe Z EL1 T101.vm h290 x := sfS (Safe.arv hZ101.alike V290 (by decide)) (sf0)
   have cR29_K292 := cR28_K290.trans (CHr.keep K292 hs29_K292 cR28_K290.1)
   have sz29_K292 := K292.1
   obtain ⟨cl293, Ar293, q293, S293, Nn293, H293, G293⟩ := id V292
   obtain ⟨T294, h294, X294, e294, W294, st294⟩ := stC X292 hx hZ101 e292 Ar293 (j := (27 : Int32)) (inb_of S293 ⟨by decide, by decide⟩) (g := (mkF m 567 #[vI p1, vI p2, vI p3, vI p4, vR b101, vI (Int32.ofNat i), vI m6, vI (((p1.toUInt32 >>> ((2 : Int32) &&& 31).toUInt32).toInt32) &&& (3 : Int32)), vI c8, vI a9, vI a10, vI a11, vI a12, vI (p1 &&& (3 : Int32)), vI (smF c8 m6), .unset, .unset, .unset] [(.int 101), (.int 27), (.ref b238), (.ref b238)])) rfl rfl (hb hby at_567)
   rw [own_nc (show ¬ (101 : Int32) < 0 ∧ ¬ (65535 : Int32) < (101 : Int32) by decide)] at W294
   have V294 : Arv Z h294 b238 k238 .char (37 : Int32) [(.int 32), (.int 97), (.int 112), (.int 112), (.int 108), (.int 105), (.int 99), (.int 97), (.int 116), (.int 105), (.int 111), (.int 110), (.int 47), (.int 120), (.int 45), (.int 119), (.int 119), (.int 119), (.int 45), (.int 102), (.int 111), (.int 114), (.int 109), (.int 45), (.int 117), (.int 114), (.int 108), (.int 101), (.int 0), (.int 0), (.int 0), (.int 0), (.int 0), (.int 0), (.int 0), (.int 0), (.int 0)] (.int 0) := Arv.set Ar293 q293 S293 Nn293 H293 G293 (own_fitc (show ¬ (101 : Int32) < 0 ∧ ¬ (65535 : Int32) < (101 : Int32) by decide)) W294 27 rfl (Nat.le_of_ble_eq_true rfl)
   have K294 := Keep.of_wr W294
   have N294 := Fr.snoc X294 N292 (by omega : @LE.le Nat _ n0 b238)
   have hs30_K294 : ∀ x ∈ ([b238] : List Addr), Safe Z EL1 T101.vm h292 x := sfS (Safe.arv hZ101.alike V292 (by decide)) (sf0)
   have cR30_K294 := cR29_K292.trans (CHr.keep K294 hs30_K294 cR29_K292.1)
   have sz30_K294 := K294.1
   obtain ⟨cl295, Ar295, q295, S295, Nn295, H295, G295⟩ := id V294
   obtain ⟨T296, h296, X296, e296, W296, st296⟩ := stC X294 hx hZ101 e294 Ar295 (j := (28 : Int32)) (inb_of S295 ⟨by decide, by decide⟩) (g := (mkF m 573 #[vI p1, vI p2, vI p3, vI p4, vR b101, vI (Int32.ofNat i), vI m6, vI (((p1.toUInt32 >>> ((2 : Int32) &&& 31).toUInt32).toInt32) &&& (3 : Int32)), vI c8, vI a9, vI a10, vI a11, vI a12, vI (p1 &&& (3 : Int32)), vI (smF c8 m6), .unset, .unset, .unset] [(.int 110), (.int 28), (.ref b238), (.ref b238)])) rfl rfl (hb hby at_573)
   rw [own_nc (show ¬ (110 : Int32) < 0 ∧ ¬ (65535 : Int32) < (110 : Int32) by decide)] at W296
   have V296 : Arv Z h296 b238 k238 .char (37 : Int32) [(.int 32), (.int 97), (.int 112), (.int 112), (.int 108), (.int 105), (.int 99), (.int 97), (.int 116), (.int 105), (.int 111), (.int 110), (.int 47), (.int 120), (.int 45), (.int 119), (.int 119), (.int 119), (.int 45), (.int 102), (.int 111), (.int 114), (.int 109), (.int 45), (.int 117), (.int 114), (.int 108), (.int 101), (.int 110), (.int 0), (.int 0), (.int 0), (.int 0), (.int 0), (.int 0), (.int 0), (.int 0)] (.int 0) := Arv.set Ar295 q295 S295 Nn295 H295 G295 (own_fitc (show ¬ (110 : Int32) < 0 ∧ ¬ (65535 : Int32) < (110 : Int32) by decide)) W296 28 rfl (Nat.le_of_ble_eq_true rfl)
   have K296 := Keep.of_wr W296
   have N296 := Fr.snoc X296 N294 (by omega : @LE.le Nat _ n0 b238)
   have hs31_K296 : ∀ x ∈ ([b238] : List Addr), Safe Z EL1 T101.vm h294 x := sfS (Safe.arv hZ101.alike V294 (by decide)) (sf0)
   have cR31_K296 := cR30_K294.trans (CHr.keep K296 hs31_K296 cR30_K294.1)
   have sz31_K296 := K296.1
   obtain ⟨cl297, Ar297, q297, S297, Nn297, H297, G297⟩ := id V296
   obtain ⟨T298, h298, X298, e298, W298, st298⟩ := stC X296 hx hZ101 e296 Ar297 (j := (29 : Int32)) (inb_of S297 ⟨by decide, by decide⟩) (g := (mkF m 579 #[vI p1, vI p2, vI p3, vI p4, vR b101, vI (Int32.ofNat i), vI m6, vI (((p1.toUInt32 >>> ((2 : Int32) &&& 31).toUInt32).toInt32) &&& (3 : Int32)), vI c8, vI a9, vI a10, vI a11, vI a12, vI (p1 &&& (3 : Int32)), vI (smF c8 m6), .unset, .unset, .unset] [(.int 99), (.int 29), (.ref b238), (.ref b238)])) rfl rfl (hb hby at_579)
   rw [own_nc (show ¬ (99 : Int32) < 0 ∧ ¬ (65535 : Int32) < (99 : Int32) by decide)] at W298
   have V298 : Arv Z h298 b238 k238 .char (37 : Int32) [(.int 32), (.int 97), (.int 112), (.int 112), (.int 108), (.int 105), (.int 99), (.int 97), (.int 116), (.int 105), (.int 111), (.int 110), (.int 47), (.int 120), (.int 45), (.int 119), (.int 119), (.int 119), (.int 45), (.int 102), (.int 111), (.int 114), (.int 109), (.int 45), (.int 117), (.int 114), (.int 108), (.int 101), (.int 110), (.int 99), (.int 0), (.int 0), (.int 0), (.int 0), (.int 0), (.int 0), (.int 0)] (.int 0) := Arv.set Ar297 q297 S297 Nn297 H297 G297 (own_fitc (show ¬ (99 : Int32) < 0 ∧ ¬ (65535 : Int32) < (99 : Int32) by decide)) W298 29 rfl (Nat.le_of_ble_eq_true rfl)
   have K298 := Keep.of_wr W298
   have N298 := Fr.snoc X298 N296 (by omega : @LE.le Nat _ n0 b238)
   have hs32_K298 : ∀ x ∈ ([b238] : List Addr), Safe Z EL1 T101.vm h296 x := sfS (Safe.arv hZ101.alike V296 (by decide)) (sf0)
   have cR32_K298 := cR31_K296.trans (CHr.keep K298 hs32_K298 cR31_K296.1)
   have sz32_K298 := K298.1
   obtain ⟨cl299, Ar299, q299, S299, Nn299, H299, G299⟩ := id V298
   obtain ⟨T300, h300, X300, e300, W300, st300⟩ := stC X298 hx hZ101 e298 Ar299 (j := (30 : Int32)) (inb_of S299 ⟨by decide, by decide⟩) (g := (mkF m 585 #[vI p1, vI p2, vI p3, vI p4, vR b101, vI (Int32.ofNat i), vI m6, vI (((p1.toUInt32 >>> ((2 : Int32) &&& 31).toUInt32).toInt32) &&& (3 : Int32)), vI c8, vI a9, vI a10, vI a11, vI a12, vI (p1 &&& (3 : Int32)), vI (smF c8 m6), .unset, .unset, .unset] [(.int 111), (.int 30), (.ref b238), (.ref b238)])) rfl rfl (hb hby at_585)
   rw [own_nc (show ¬ (111 : Int32) < 0 ∧ ¬ (65535 : Int32) < (111 : Int32) by decide)] at W300
   have V300 : Arv Z h300 b238 k238 .char (37 : Int32) [(.int 32), (.int 97), (.int 112), (.int 112), (.int 108), (.int 105), (.int 99), (.int 97), (.int 116), (.int 105), (.int 111), (.int 110), (.int 47), (.int 120), (.int 45), (.int 119), (.int 119), (.int 119), (.int 45), (.int 102), (.int 111), (.int 114), (.int 109), (.int 45), (.int 117), (.int 114), (.int 108), (.int 101), (.int 110), (.int 99), (.int 111), (.int 0), (.int 0), (.int 0), (.int 0), (.int 0), (.int 0)] (.int 0) := Arv.set Ar299 q299 S299 Nn299 H299 G299 (own_fitc (show ¬ (111 : Int32) < 0 ∧ ¬ (65535 : Int32) < (111 : Int32) by decide)) W300 30 rfl (Nat.le_of_ble_eq_true rfl)
   have K300 := Keep.of_wr W300
   have N300 := Fr.snoc X300 N298 (by omega : @LE.le Nat _ n0 b238)
   have hs33_K300 : ∀ x ∈ ([b238] : List Addr), Safe Z EL1 T101.vm h298 x := sfS (Safe.arv hZ101.alike V298 (by decide)) (sf0)
   have cR33_K300 := cR32_K298.trans (CHr.keep K300 hs33_K300 cR32_K298.1)
   have sz33_K300 := K300.1
   obtain ⟨cl301, Ar301, q301, S301, Nn301, H301, G301⟩ := id V300
   obtain ⟨T302, h302, X302, e302, W302, st302⟩ := stC X300 hx hZ101 e300 Ar301 (j := (31 : Int32)) (inb_of S301 ⟨by decide, by decide⟩) (g := (mkF m 591 #[vI p1, vI p2, vI p3, vI p4, vR b101, vI (Int32.ofNat i), vI m6, vI (((p1.toUInt32 >>> ((2 : Int32) &&& 31).toUInt32).toInt32) &&& (3 : Int32)), vI c8, vI a9, vI a10, vI a11, vI a12, vI (p1 &&& (3 : Int32)), vI (smF c8 m6), .unset, .unset, .unset] [(.int 100), (.int 31), (.ref b238), (.ref b238)])) rfl rfl (hb hby at_591)
   rw [own_nc (show ¬ (100 : Int32) < 0 ∧ ¬ (65535 : Int32) < (100 : Int32) by decide)] at W302
   have V302 : Arv Z h302 b238 k238 .char (37 : Int32) [(.int 32), (.int 97), (.int 112), (.int 112), (.int 108), (.int 105), (.int 99), (.int 97), (.int 116), (.int 105), (.int 111), (.int 110), (.int 47), (.int 120), (.int 45), (.int 119), (.int 119), (.int 119), (.int 45), (.int 102), (.int 111), (.int 114), (.int 109), (.int 45), (.int 117), (.int 114), (.int 108), (.int 101), (.int 110), (.int 99), (.int 111), (.int 100), (.int 0), (.int 0), (.int 0), (.int 0), (.int 0)] (.int 0) := Arv.set Ar301 q301 S301 Nn301 H301 G301 (own_fitc (show ¬ (100 : Int32) < 0 ∧ ¬ (65535 : Int32) < (100 : Int32) by decide)) W302 31 rfl (Nat.le_of_ble_eq_true rfl)
   have K302 := Keep.of_wr W302
   have N302 := Fr.snoc X302 N300 (by omega : @LE.le Nat _ n0 b238)
   have hs34_K302 : ∀ x ∈ ([b238] : List Addr), Safe Z EL1 T101.vm h300 x := sfS (Safe.arv hZ101.alike V300 (by decide)) (sf0)
   have cR34_K302 := cR33_K300.trans (CHr.keep K302 hs34_K302 cR33_K300.1)
   have sz34_K302 := K302.1
   obtain ⟨cl303, Ar303, q303, S303, Nn303, H303, G303⟩ := id V302
   obtain ⟨T304, h304, X304, e304, W304, st304⟩ := stC X302 hx hZ101 e302 Ar303 (j := (32 : Int32)) (inb_of S303 ⟨by decide, by decide⟩) (g := (mkF m 597 #[vI p1, vI p2, vI p3, vI p4, vR b101, vI (Int32.ofNat i), vI m6, vI (((p1.toUInt32 >>> ((2 : Int32) &&& 31).toUInt32).toInt32) &&& (3 : Int32)), vI c8, vI a9, vI a10, vI a11, vI a12, vI (p1 &&& (3 : Int32)), vI (smF c8 m6), .unset, .unset, .unset] [(.int 101), (.int 32), (.ref b238), (.ref b238)])) rfl rfl (hb hby at_597)
   rw [own_nc (show ¬ (101 : Int32) < 0 ∧ ¬ (65535 : Int32) < (101 : Int32) by decide)] at W304
   have V304 : Arv Z h304 b238 k238 .char (37 : Int32) [(.int 32), (.int 97), (.int 112), (.int 112), (.int 108), (.int 105), (.int 99), (.int 97), (.int 116), (.int 105), (.int 111), (.int 110), (.int 47), (.int 120), (.int 45), (.int 119), (.int 119), (.int 119), (.int 45), (.int 102), (.int 111), (.int 114), (.int 109), (.int 45), (.int 117), (.int 114), (.int 108), (.int 101), (.int 110), (.int 99), (.int 111), (.int 100), (.int 101), (.int 0), (.int 0), (.int 0), (.int 0)] (.int 0) := Arv.set Ar303 q303 S303 Nn303 H303 G303 (own_fitc (show ¬ (101 : Int32) < 0 ∧ ¬ (65535 : Int32) < (101 : Int32) by decide)) W304 32 rfl (Nat.le_of_ble_eq_true rfl)
   have K304 := Keep.of_wr W304
   have N304 := Fr.snoc X304 N302 (by omega : @LE.le Nat _ n0 b238)
   have hs35_K304 : ∀ x ∈ ([b238] : List Addr), Safe Z EL1 T101.vm h302 x := sfS (Safe.arv hZ101.alike V302 (by decide)) (sf0)
   have cR35_K304 := cR34_K302.trans (CHr.keep K304 hs35_K304 cR34_K302.1)
   have sz35_K304 := K304.1
   obtain ⟨cl305, Ar305, q305, S305, Nn305, H305, G305⟩ := id V304
   obtain ⟨T306, h306, X306, e306, W306, st306⟩ := stC X304 hx hZ101 e304 Ar305 (j := (33 : Int32)) (inb_of S305 ⟨by decide, by decide⟩) (g := (mkF m 603 #[vI p1, vI p2, vI p3, vI p4, vR b101, vI (Int32.ofNat i), vI m6, vI (((p1.toUInt32 >>> ((2 : Int32) &&& 31).toUInt32).toInt32) &&& (3 : Int32)), vI c8, vI a9, vI a10, vI a11, vI a12, vI (p1 &&& (3 : Int32)), vI (smF c8 m6), .unset, .unset, .unset] [(.int 100), (.int 33), (.ref b238), (.ref b238)])) rfl rfl (hb hby at_603)
   rw [own_nc (show ¬ (100 : Int32) < 0 ∧ ¬ (65535 : Int32) < (100 : Int32) by decide)] at W306
   have V306 : Arv Z h306 b238 k238 .char (37 : Int32) [(.int 32), (.int 97), (.int 112), (.int 112), (.int 108), (.int 105), (.int 99), (.int 97), (.int 116), (.int 105), (.int 111), (.int 110), (.int 47), (.int 120), (.int 45), (.int 119), (.int 119), (.int 119), (.int 45), (.int 102), (.int 111), (.int 114), (.int 109), (.int 45), (.int 117), (.int 114), (.int 108), (.int 101), (.int 110), (.int 99), (.int 111), (.int 100), (.int 101), (.int 100), (.int 0), (.int 0), (.int 0)] (.int 0) := Arv.set Ar305 q305 S305 Nn305 H305 G305 (own_fitc (show ¬ (100 : Int32) < 0 ∧ ¬ (65535 : Int32) < (100 : Int32) by decide)) W306 33 rfl (Nat.le_of_ble_eq_true rfl)
   have K306 := Keep.of_wr W306
   have N306 := Fr.snoc X306 N304 (by omega : @LE.le Nat _ n0 b238)
   have hs36_K306 : ∀ x ∈ ([b238] : List Addr), Safe Z EL1 T101.vm h304 x := sfS (Safe.arv hZ101.alike V304 (by decide)) (sf0)
   have cR36_K306 := cR35_K304.trans (CHr.keep K306 hs36_K306 cR35_K304.1)
   have sz36_K306 := K306.1
   obtain ⟨cl307, Ar307, q307, S307, Nn307, H307, G307⟩ := id V306
   obtain ⟨T308, h308, X308, e308, W308, st308⟩ := stC X306 hx hZ101 e306 Ar307 (j := (34 : Int32)) (inb_of S307 ⟨by decide, by decide⟩) (g := (mkF m 609 #[vI p1, vI p2, vI p3, vI p4, vR b101, vI (Int32.ofNat i), vI m6, vI (((p1.toUInt32 >>> ((2 : Int32) &&& 31).toUInt32).toInt32) &&& (3 : Int32)), vI c8, vI a9, vI a10, vI a11, vI a12, vI (p1 &&& (3 : Int32)), vI (smF c8 m6), .unset, .unset, .unset] [(.int 32), (.int 34), (.ref b238), (.ref b238)])) rfl rfl (hb hby at_609)
   rw [own_nc (show ¬ (32 : Int32) < 0 ∧ ¬ (65535 : Int32) < (32 : Int32) by decide)] at W308
   have V308 : Arv Z h308 b238 k238 .char (37 : Int32) [(.int 32), (.int 97), (.int 112), (.int 112), (.int 108), (.int 105), (.int 99), (.int 97), (.int 116), (.int 105), (.int 111), (.int 110), (.int 47), (.int 120), (.int 45), (.int 119), (.int 119), (.int 119), (.int 45), (.int 102), (.int 111), (.int 114), (.int 109), (.int 45), (.int 117), (.int 114), (.int 108), (.int 101), (.int 110), (.int 99), (.int 111), (.int 100), (.int 101), (.int 100), (.int 32), (.int 0), (.int 0)] (.int 0) := Arv.set Ar307 q307 S307 Nn307 H307 G307 (own_fitc (show ¬ (32 : Int32) < 0 ∧ ¬ (65535 : Int32) < (32 : Int32) by decide)) W308 34 rfl (Nat.le_of_ble_eq_true rfl)
   have K308 := Keep.of_wr W308
   have N308 := Fr.snoc X308 N306 (by omega : @LE.le Nat _ n0 b238)
   have hs37_K308 : ∀ x ∈ ([b238] : List Addr), Safe Z EL1 T101.vm h306 x := sfS (Safe.arv hZ101.alike V306 (by decide)) (sf0)
   have cR37_K308 := cR36_K306.trans (CHr.keep K308 hs37_K308 cR36_K306.1)
   have sz37_K308 := K308.1
   obtain ⟨cl309, Ar309, q309, S309, Nn309, H309, G309⟩ := id V308
   obtain ⟨T310, h310, X310, e310, W310, st310⟩ := stC X308 hx hZ101 e308 Ar309 (j := (35 : Int32)) (inb_of S309 ⟨by decide, by decide⟩) (g := (mkF m 615 #[vI p1, vI p2, vI p3, vI p4, vR b101, vI (Int32.ofNat i), vI m6, vI (((p1.toUInt32 >>> ((2 : Int32) &&& 31).toUInt32).toInt32) &&& (3 : Int32)), vI c8, vI a9, vI a10, vI a11, vI a12, vI (p1 &&& (3 : Int32)), vI (smF c8 m6), .unset, .unset, .unset] [(.int 32), (.int 35), (.ref b238), (.ref b238)])) rfl rfl (hb hby at_615)
   rw [own_nc (show ¬ (32 : Int32) < 0 ∧ ¬ (65535 : Int32) < (32 : Int32) by decide)] at W310
   have V310 : Arv Z h310 b238 k238 .char (37 : Int32) [(.int 32), (.int 97), (.int 112), (.int 112), (.int 108), (.int 105), (.int 99), (.int 97), (.int 116), (.int 105), (.int 111), (.int 110), (.int 47), (.int 120), (.int 45), (.int 119), (.int 119), (.int 119), (.int 45), (.int 102), (.int 111), (.int 114), (.int 109), (.int 45), (.int 117), (.int 114), (.int 108), (.int 101), (.int 110), (.int 99), (.int 111), (.int 100), (.int 101), (.int 100), (.int 32), (.int 32), (.int 0)] (.int 0) := Arv.set Ar309 q309 S309 Nn309 H309 G309 (own_fitc (show ¬ (32 : Int32) < 0 ∧ ¬ (65535 : Int32) < (32 : Int32) by decide)) W310 35 rfl (Nat.le_of_ble_eq_true rfl)
   have K310 := Keep.of_wr W310
   have N310 := Fr.snoc X310 N308 (by omega : @LE.le Nat _ n0 b238)
   have hs38_K310 : ∀ x ∈ ([b238] : List Addr), Safe Z EL1 T101.vm h308 x := sfS (Safe.arv hZ101.alike V308 (by decide)) (sf0)
   have cR38_K310 := cR37_K308.trans (CHr.keep K310 hs38_K310 cR37_K308.1)
   have sz38_K310 := K310.1
   obtain ⟨cl311, Ar311, q311, S311, Nn311, H311, G311⟩ := id V310
   obtain ⟨T312, h312, X312, e312, W312, st312⟩ := stC X310 hx hZ101 e310 Ar311 (j := (36 : Int32)) (inb_of S311 ⟨by decide, by decide⟩) (g := (mkF m 621 #[vI p1, vI p2, vI p3, vI p4, vR b101, vI (Int32.ofNat i), vI m6, vI (((p1.toUInt32 >>> ((2 : Int32) &&& 31).toUInt32).toInt32) &&& (3 : Int32)), vI c8, vI a9, vI a10, vI a11, vI a12, vI (p1 &&& (3 : Int32)), vI (smF c8 m6), .unset, .unset, .unset] [(.int 32), (.int 36), (.ref b238), (.ref b238)])) rfl rfl (hb hby at_621)
   rw [own_nc (show ¬ (32 : Int32) < 0 ∧ ¬ (65535 : Int32) < (32 : Int32) by decide)] at W312
   have V312 : Arv Z h312 b238 k238 .char (37 : Int32) [(.int 32), (.int 97), (.int 112), (.int 112), (.int 108), (.int 105), (.int 99), (.int 97), (.int 116), (.int 105), (.int 111), (.int 110), (.int 47), (.int 120), (.int 45), (.int 119), (.int 119), (.int 119), (.int 45), (.int 102), (.int 111), (.int 114), (.int 109), (.int 45), (.int 117), (.int 114), (.int 108), (.int 101), (.int 110), (.int 99), (.int 111), (.int 100), (.int 101), (.int 100), (.int 32), (.int 32), (.int 32)] (.int 0) := Arv.set Ar311 q311 S311 Nn311 H311 G311 (own_fitc (show ¬ (32 : Int32) < 0 ∧ ¬ (65535 : Int32) < (32 : Int32) by decide)) W312 36 rfl (Nat.le_of_ble_eq_true rfl)
   have K312 := Keep.of_wr W312
   have N312 := Fr.snoc X312 N310 (by omega : @LE.le Nat _ n0 b238)
   have hs39_K312 : ∀ x ∈ ([b238] : List Addr), Safe Z EL1 T101.vm h310 x := sfS (Safe.arv hZ101.alike V310 (by decide)) (sf0)
   have cR39_K312 := cR38_K310.trans (CHr.keep K312 hs39_K312 cR38_K310.1)
   have sz39_K312 := K312.1
   obtain ⟨cl313, Ar313, q313, S313, Nn313, H313, G313⟩ := id V312
   obtain ⟨T314, h314, X314, e314, W314, st314⟩ := stC X312 hx hZ101 e312 Ar313 (j := (0 : Int32)) (inb_of S313 ⟨by decide, by decide⟩) (g := (mkF m 629 #[vI p1, vI p2, vI p3, vI p4, vR b101, vI (Int32.ofNat i), vI m6, vI (((p1.toUInt32 >>> ((2 : Int32) &&& 31).toUInt32).toInt32) &&& (3 : Int32)), vI c8, vI a9, vI a10, vI a11, vI a12, vI (p1 &&& (3 : Int32)), vI (smF c8 m6), vR b238, .unset, .unset] [(.int a9), (.int 0), (.ref b238)])) rfl rfl (hb hby at_629)
   rw [own_nc (own_c255 ra9)] at W314
   have V314 : Arv Z h314 b238 k238 .char (37 : Int32) [(.int a9), (.int 97), (.int 112), (.int 112), (.int 108), (.int 105), (.int 99), (.int 97), (.int 116), (.int 105), (.int 111), (.int 110), (.int 47), (.int 120), (.int 45), (.int 119), (.int 119), (.int 119), (.int 45), (.int 102), (.int 111), (.int 114), (.int 109), (.int 45), (.int 117), (.int 114), (.int 108), (.int 101), (.int 110), (.int 99), (.int 111), (.int 100), (.int 101), (.int 100), (.int 32), (.int 32), (.int 32)] (.int 0) := Arv.set Ar313 q313 S313 Nn313 H313 G313 (own_fitc (own_c255 ra9)) W314 0 rfl (Nat.le_of_ble_eq_true rfl)
   have K314 := Keep.of_wr W314
   have N314 := Fr.snoc X314 N312 (by omega : @LE.le Nat _ n0 b238)
   have hs40_K314 : ∀ x ∈ ([b238] : List Addr), Safe Z EL1 T101.vm h312 x := sfS (Safe.arv hZ101.alike V312 (by decide)) (sf0)
   have cR40_K314 := cR39_K312.trans (CHr.keep K314 hs40_K314 cR39_K312.1)
   have sz40_K314 := K314.1
   have VL315 : Arv Z h314 b238 k238 .char (37 : Int32) ((.int a9) :: (media.map Value.int ++ [(.int 32), (.int 32), (.int 32)])) (.int 0) := V314
   have hr316 : ((1 : Int32) + (Int32.ofNat i)) = (Int32.ofNat (1 + i)) := own_add 1 i
   obtain ⟨cl317, Ar317, q317, S317, Nn317, H317, G317⟩ := id VL315
   obtain ⟨T318, h318, X318, e318, W318, st318⟩ := stC X314 hx hZ101 e314 Ar317 (j := (Int32.ofNat (1 + i))) (inb_of S317 ⟨own_nn (by omega), (own_lt (j := 37) (by omega) (by decide)).mpr (by omega)⟩) (g := (mkF m 638 #[vI p1, vI p2, vI p3, vI p4, vR b101, vI (Int32.ofNat i), vI m6, vI (((p1.toUInt32 >>> ((2 : Int32) &&& 31).toUInt32).toInt32) &&& (3 : Int32)), vI c8, vI a9, vI a10, vI a11, vI a12, vI (p1 &&& (3 : Int32)), vI (smF c8 m6), vR b238, .unset, .unset] [(.int c8), (.int (Int32.ofNat (1 + i))), (.ref b238)])) rfl rfl (hb hby at_638)
   rw [own_nc (own_c255 rc8)] at W318
   have V318 : Arv Z h318 b238 k238 .char (37 : Int32) (((.int a9) :: (media.map Value.int ++ [(.int 32), (.int 32), (.int 32)])).set (1 + i) (.int c8)) (.int 0) := Arv.set Ar317 q317 S317 Nn317 H317 G317 (own_fitc (own_c255 rc8)) W318 (1 + i) (own_nat (by omega)) (by rw [own_l37 _ _ _ _ _ (by rw [List.length_map, own_medlen])]; omega)
   have K318 := Keep.of_wr W318
   have N318 := Fr.snoc X318 N314 (by omega : @LE.le Nat _ n0 b238)
   rw [own_mset1 i c8 _ _ hi] at V318
   have hs41_K318 : ∀ x ∈ ([b238] : List Addr), Safe Z EL1 T101.vm h314 x := sfS (Safe.arv hZ101.alike VL315 (by decide)) (sf0)
   have cR41_K318 := cR40_K314.trans (CHr.keep K318 hs41_K318 cR40_K314.1)
   have sz41_K318 := K318.1
   obtain ⟨cl319, Ar319, q319, S319, Nn319, H319, G319⟩ := id V318
   obtain ⟨T320, h320, X320, e320, W320, st320⟩ := stC X318 hx hZ101 e318 Ar319 (j := (34 : Int32)) (inb_of S319 ⟨by decide, by decide⟩) (g := (mkF m 645 #[vI p1, vI p2, vI p3, vI p4, vR b101, vI (Int32.ofNat i), vI m6, vI (((p1.toUInt32 >>> ((2 : Int32) &&& 31).toUInt32).toInt32) &&& (3 : Int32)), vI c8, vI a9, vI a10, vI a11, vI a12, vI (p1 &&& (3 : Int32)), vI (smF c8 m6), vR b238, .unset, .unset] [(.int a10), (.int 34), (.ref b238)])) rfl rfl (hb hby at_645)
   rw [own_nc (own_c255 ra10)] at W320
   have V320 : Arv Z h320 b238 k238 .char (37 : Int32) (((.int a9) :: (((media.set i c8).map Value.int) ++ [(.int 32), (.int 32), (.int 32)])).set 34 (.int a10)) (.int 0) := Arv.set Ar319 q319 S319 Nn319 H319 G319 (own_fitc (own_c255 ra10)) W320 34 (by decide) (by simp [own_medlen])
   have K320 := Keep.of_wr W320
   have N320 := Fr.snoc X320 N318 (by omega : @LE.le Nat _ n0 b238)
   rw [own_mset2 0 _ _ _ _ (by rw [List.length_map, own_setlen])] at V320
   have hs42_K320 : ∀ x ∈ ([b238] : List Addr), Safe Z EL1 T101.vm h318 x := sfS (Safe.arv hZ101.alike V318 (by decide)) (sf0)
   have cR42_K320 := cR41_K318.trans (CHr.keep K320 hs42_K320 cR41_K318.1)
   have sz42_K320 := K320.1
   obtain ⟨cl321, Ar321, q321, S321, Nn321, H321, G321⟩ := id V320
   obtain ⟨T322, h322, X322, e322, W322, st322⟩ := stC X320 hx hZ101 e320 Ar321 (j := (35 : Int32)) (inb_of S321 ⟨by decide, by decide⟩) (g := (mkF m 652 #[vI p1, vI p2, vI p3, vI p4, vR b101, vI (Int32.ofNat i), vI m6, vI (((p1.toUInt32 >>> ((2 : Int32) &&& 31).toUInt32).toInt32) &&& (3 : Int32)), vI c8, vI a9, vI a10, vI a11, vI a12, vI (p1 &&& (3 : Int32)), vI (smF c8 m6), vR b238, .unset, .unset] [(.int a11), (.int 35), (.ref b238)])) rfl rfl (hb hby at_652)
   rw [own_nc (own_c255 ra11)] at W322
   have V322 : Arv Z h322 b238 k238 .char (37 : Int32) (((.int a9) :: (((media.set i c8).map Value.int) ++ [(.int a10), (.int 32), (.int 32)])).set 35 (.int a11)) (.int 0) := Arv.set Ar321 q321 S321 Nn321 H321 G321 (own_fitc (own_c255 ra11)) W322 35 (by decide) (by simp [own_medlen])
   have K322 := Keep.of_wr W322
   have N322 := Fr.snoc X322 N320 (by omega : @LE.le Nat _ n0 b238)
   rw [own_mset2 1 _ _ _ _ (by rw [List.length_map, own_setlen])] at V322
   have hs43_K322 : ∀ x ∈ ([b238] : List Addr), Safe Z EL1 T101.vm h320 x := sfS (Safe.arv hZ101.alike V320 (by decide)) (sf0)
   have cR43_K322 := cR42_K320.trans (CHr.keep K322 hs43_K322 cR42_K320.1)
   have sz43_K322 := K322.1
   obtain ⟨cl323, Ar323, q323, S323, Nn323, H323, G323⟩ := id V322
   obtain ⟨T324, h324, X324, e324, W324, st324⟩ := stC X322 hx hZ101 e322 Ar323 (j := (36 : Int32)) (inb_of S323 ⟨by decide, by decide⟩) (g := (mkF m 659 #[vI p1, vI p2, vI p3, vI p4, vR b101, vI (Int32.ofNat i), vI m6, vI (((p1.toUInt32 >>> ((2 : Int32) &&& 31).toUInt32).toInt32) &&& (3 : Int32)), vI c8, vI a9, vI a10, vI a11, vI a12, vI (p1 &&& (3 : Int32)), vI (smF c8 m6), vR b238, .unset, .unset] [(.int a12), (.int 36), (.ref b238)])) rfl rfl (hb hby at_659)
   rw [own_nc (own_c255 ra12)] at W324
   have V324 : Arv Z h324 b238 k238 .char (37 : Int32) (((.int a9) :: (((media.set i c8).map Value.int) ++ [(.int a10), (.int a11), (.int 32)])).set 36 (.int a12)) (.int 0) := Arv.set Ar323 q323 S323 Nn323 H323 G323 (own_fitc (own_c255 ra12)) W324 36 (by decide) (by simp [own_medlen])
   have K324 := Keep.of_wr W324
   have N324 := Fr.snoc X324 N322 (by omega : @LE.le Nat _ n0 b238)
   rw [own_mset2 2 _ _ _ _ (by rw [List.length_map, own_setlen])] at V324
   have hs44_K324 : ∀ x ∈ ([b238] : List Addr), Safe Z EL1 T101.vm h322 x := sfS (Safe.arv hZ101.alike V322 (by decide)) (sf0)
   have cR44_K324 := cR43_K322.trans (CHr.keep K324 hs44_K324 cR43_K322.1)
   have sz44_K324 := K324.1
   have VL325 : Arv Z h324 b238 k238 .char (37 : Int32) ((a9 :: (media.set i c8 ++ [a10, a11, a12])).map Value.int) (.int 0) := (by have h := V324; simpa using h)
   have hmem : ∀ x ∈ (a9 :: (media.set i c8 ++ [a10, a11, a12])), ¬ x < 0 ∧ ¬ (255 : Int32) < x := by
    intro x hx
    rcases List.mem_cons.mp hx with rfl | hx
    ·exact ra9
    ·rcases List.mem_append.mp hx with hx | hx
     ·exact own_medsetr rc8 x hx
     ·simp only [List.mem_cons, List.not_mem_nil, or_false] at hx; rcases hx with rfl | rfl | rfl <;> first | exact ra10 | exact ra11 | exact ra12
   have pre326 : ∀ t, SS p e below T324 m 660 #[vI p1, vI p2, vI p3, vI p4, vR b101, vI (Int32.ofNat i), vI m6, vI (((p1.toUInt32 >>> ((2 : Int32) &&& 31).toUInt32).toInt32) &&& (3 : Int32)), vI c8, vI a9, vI a10, vI a11, vI a12, vI (p1 &&& (3 : Int32)), vI (smF c8 m6), vR b238, .unset, .unset] [] t → SE p e below s₁ m #[(.int p1), (.int p2), (.int p3), (.int p4)] maxLocals t := by
    intro t kt
    refine pre124 _ ?_
    show SS p e below T122 m 171 #[vI p1, vI p2, vI p3, vI p4, vR b101, vI (Int32.ofNat i), vI m6, vI (((p1.toUInt32 >>> ((2 : Int32) &&& 31).toUInt32).toInt32) &&& (3 : Int32)), vI c8, vI a9, vI a10, vI a11, vI a12, vI (p1 &&& (3 : Int32)), vI (smF c8 m6), .unset, .unset, .unset] [(.int (p1 &&& (3 : Int32)))] _
    refine XS.ifYes X122.here hx rfl (pc0 := 171) (pc' := 402) rfl (hb hby at_171) rfl ((if0 _ _).trans (feq hc123).2) (by decide) (by decide) ?_
    refine XS.bipush X122.here hx rfl (hb hby at_402) ?_
    show SS p e below T122 m 404 #[vI p1, vI p2, vI p3, vI p4, vR b101, vI (Int32.ofNat i), vI m6, vI (((p1.toUInt32 >>> ((2 : Int32) &&& 31).toUInt32).toInt32) &&& (3 : Int32)), vI c8, vI a9, vI a10, vI a11, vI a12, vI (p1 &&& (3 : Int32)), vI (smF c8 m6), .unset, .unset, .unset] [(.int 37)] _
    refine st238 _ ?_
    refine XS.dup X238.here hx rfl (hb hby at_406) rfl rfl ?_
    refine XS.iconst X238.here hx rfl (hb hby at_407) ?_
    refine XS.bipush X238.here hx rfl (hb hby at_408) ?_
    show SS p e below T238 m 410 #[vI p1, vI p2, vI p3, vI p4, vR b101, vI (Int32.ofNat i), vI m6, vI (((p1.toUInt32 >>> ((2 : Int32) &&& 31).toUInt32).toInt32) &&& (3 : Int32)), vI c8, vI a9, vI a10, vI a11, vI a12, vI (p1 &&& (3 : Int32)), vI (smF c8 m6), .unset, .unset, .unset] [(.int 32), (.int 0), (.ref b238), (.ref b238)] _
    refine st240 _ ?_
    refine XS.dup X240.here hx rfl (hb hby at_411) rfl rfl ?_
    refine XS.iconst X240.here hx rfl (hb hby at_412) ?_
    refine XS.bipush X240.here hx rfl (hb hby at_413) ?_
    show SS p e below T240 m 415 #[vI p1, vI p2, vI p3, vI p4, vR b101, vI (Int32.ofNat i), vI m6, vI (((p1.toUInt32 >>> ((2 : Int32) &&& 31).toUInt32).toInt32) &&& (3 : Int32)), vI c8, vI a9, vI a10, vI a11, vI a12, vI (p1 &&& (3 : Int32)), vI (smF c8 m6), .unset, .unset, .unset] [(.int 97), (.int 1), (.ref b238), (.ref b238)] _
    refine st242 _ ?_
    refine XS.dup X242.here hx rfl (hb hby at_416) rfl rfl ?_
    refine XS.iconst X242.here hx rfl (hb hby at_417) ?_
    refine XS.bipush X242.here hx rfl (hb hby at_418) ?_
    show SS p e below T242 m 420 #[vI p1, vI p2, vI p3, vI p4, vR b101, vI (Int32.ofNat i), vI m6, vI (((p1.toUInt32 >>> ((2 : Int32) &&& 31).toUInt32).toInt32) &&& (3 : Int32)), vI c8, vI a9, vI a10, vI a11, vI a12, vI (p1 &&& (3 : Int32)), vI (smF c8 m6), .unset, .unset, .unset] [(.int 112), (.int 2), (.ref b238), (.ref b238)] _
    refine st244 _ ?_
    refine XS.dup X244.here hx rfl (hb hby at_421) rfl rfl ?_
    refine XS.iconst X244.here hx rfl (hb hby at_422) ?_
    refine XS.bipush X244.here hx rfl (hb hby at_423) ?_
    show SS p e below T244 m 425 #[vI p1, vI p2, vI p3, vI p4, vR b101, vI (Int32.ofNat i), vI m6, vI (((p1.toUInt32 >>> ((2 : Int32) &&& 31).toUInt32).toInt32) &&& (3 : Int32)), vI c8, vI a9, vI a10, vI a11, vI a12, vI (p1 &&& (3 : Int32)), vI (smF c8 m6), .unset, .unset, .unset] [(.int 112), (.int 3), (.ref b238), (.ref b238)] _
    refine st246 _ ?_
    refine XS.dup X246.here hx rfl (hb hby at_426) rfl rfl ?_
    refine XS.iconst X246.here hx rfl (hb hby at_427) ?_
    refine XS.bipush X246.here hx rfl (hb hby at_428) ?_
    show SS p e below T246 m 430 #[vI p1, vI p2, vI p3, vI p4, vR b101, vI (Int32.ofNat i), vI m6, vI (((p1.toUInt32 >>> ((2 : Int32) &&& 31).toUInt32).toInt32) &&& (3 : Int32)), vI c8, vI a9, vI a10, vI a11, vI a12, vI (p1 &&& (3 : Int32)), vI (smF c8 m6), .unset, .unset, .unset] [(.int 108), (.int 4), (.ref b238), (.ref b238)] _
    refine st248 _ ?_
    refine XS.dup X248.here hx rfl (hb hby at_431) rfl rfl ?_
    refine XS.iconst X248.here hx rfl (hb hby at_432) ?_
    refine XS.bipush X248.here hx rfl (hb hby at_433) ?_
    show SS p e below T248 m 435 #[vI p1, vI p2, vI p3, vI p4, vR b101, vI (Int32.ofNat i), vI m6, vI (((p1.toUInt32 >>> ((2 : Int32) &&& 31).toUInt32).toInt32) &&& (3 : Int32)), vI c8, vI a9, vI a10, vI a11, vI a12, vI (p1 &&& (3 : Int32)), vI (smF c8 m6), .unset, .unset, .unset] [(.int 105), (.int 5), (.ref b238), (.ref b238)] _
    refine st250 _ ?_
    refine XS.dup X250.here hx rfl (hb hby at_436) rfl rfl ?_
    refine XS.bipush X250.here hx rfl (hb hby at_437) ?_
    refine XS.bipush X250.here hx rfl (hb hby at_439) ?_
    show SS p e below T250 m 441 #[vI p1, vI p2, vI p3, vI p4, vR b101, vI (Int32.ofNat i), vI m6, vI (((p1.toUInt32 >>> ((2 : Int32) &&& 31).toUInt32).toInt32) &&& (3 : Int32)), vI c8, vI a9, vI a10, vI a11, vI a12, vI (p1 &&& (3 : Int32)), vI (smF c8 m6), .unset, .unset, .unset] [(.int 99), (.int 6), (.ref b238), (.ref b238)] _
    refine st252 _ ?_
    refine XS.dup X252.here hx rfl (hb hby at_442) rfl rfl ?_
    refine XS.bipush X252.here hx rfl (hb hby at_443) ?_
    refine XS.bipush X252.here hx rfl (hb hby at_445) ?_
    show SS p e below T252 m 447 #[vI p1, vI p2, vI p3, vI p4, vR b101, vI (Int32.ofNat i), vI m6, vI (((p1.toUInt32 >>> ((2 : Int32) &&& 31).toUInt32).toInt32) &&& (3 : Int32)), vI c8, vI a9, vI a10, vI a11, vI a12, vI (p1 &&& (3 : Int32)), vI (smF c8 m6), .unset, .unset, .unset] [(.int 97), (.int 7), (.ref b238), (.ref b238)] _
    refine st254 _ ?_
    refine XS.dup X254.here hx rfl (hb hby at_448) rfl rfl ?_
    refine XS.bipush X254.here hx rfl (hb hby at_449) ?_
    refine XS.bipush X254.here hx rfl (hb hby at_451) ?_
    show SS p e below T254 m 453 #[vI p1, vI p2, vI p3, vI p4, vR b101, vI (Int32.ofNat i), vI m6, vI (((p1.toUInt32 >>> ((2 : Int32) &&& 31).toUInt32).toInt32) &&& (3 : Int32)), vI c8, vI a9, vI a10, vI a11, vI a12, vI (p1 &&& (3 : Int32)), vI (smF c8 m6), .unset, .unset, .unset] [(.int 116), (.int 8), (.ref b238), (.ref b238)] _
    refine st256 _ ?_
    refine XS.dup X256.here hx rfl (hb hby at_454) rfl rfl ?_
    refine XS.bipush X256.here hx rfl (hb hby at_455) ?_
    refine XS.bipush X256.here hx rfl (hb hby at_457) ?_
    show SS p e below T256 m 459 #[vI p1, vI p2, vI p3, vI p4, vR b101, vI (Int32.ofNat i), vI m6, vI (((p1.toUInt32 >>> ((2 : Int32) &&& 31).toUInt32).toInt32) &&& (3 : Int32)), vI c8, vI a9, vI a10, vI a11, vI a12, vI (p1 &&& (3 : Int32)), vI (smF c8 m6), .unset, .unset, .unset] [(.int 105), (.int 9), (.ref b238), (.ref b238)] _
    refine st258 _ ?_
    refine XS.dup X258.here hx rfl (hb hby at_460) rfl rfl ?_
    refine XS.bipush X258.here hx rfl (hb hby at_461) ?_
    refine XS.bipush X258.here hx rfl (hb hby at_463) ?_
    show SS p e below T258 m 465 #[vI p1, vI p2, vI p3, vI p4, vR b101, vI (Int32.ofNat i), vI m6, vI (((p1.toUInt32 >>> ((2 : Int32) &&& 31).toUInt32).toInt32) &&& (3 : Int32)), vI c8, vI a9, vI a10, vI a11, vI a12, vI (p1 &&& (3 : Int32)), vI (smF c8 m6), .unset, .unset, .unset] [(.int 111), (.int 10), (.ref b238), (.ref b238)] _
    refine st260 _ ?_
    refine XS.dup X260.here hx rfl (hb hby at_466) rfl rfl ?_
    refine XS.bipush X260.here hx rfl (hb hby at_467) ?_
    refine XS.bipush X260.here hx rfl (hb hby at_469) ?_
    show SS p e below T260 m 471 #[vI p1, vI p2, vI p3, vI p4, vR b101, vI (Int32.ofNat i), vI m6, vI (((p1.toUInt32 >>> ((2 : Int32) &&& 31).toUInt32).toInt32) &&& (3 : Int32)), vI c8, vI a9, vI a10, vI a11, vI a12, vI (p1 &&& (3 : Int32)), vI (smF c8 m6), .unset, .unset, .unset] [(.int 110), (.int 11), (.ref b238), (.ref b238)] _
    refine st262 _ ?_
    refine XS.dup X262.here hx rfl (hb hby at_472) rfl rfl ?_
    refine XS.bipush X262.here hx rfl (hb hby at_473) ?_
    refine XS.bipush X262.here hx rfl (hb hby at_475) ?_
    show SS p e below T262 m 477 #[vI p1, vI p2, vI p3, vI p4, vR b101, vI (Int32.ofNat i), vI m6, vI (((p1.toUInt32 >>> ((2 : Int32) &&& 31).toUInt32).toInt32) &&& (3 : Int32)), vI c8, vI a9, vI a10, vI a11, vI a12, vI (p1 &&& (3 : Int32)), vI (smF c8 m6), .unset, .unset, .unset] [(.int 47), (.int 12), (.ref b238), (.ref b238)] _
    refine st264 _ ?_
    refine XS.dup X264.here hx rfl (hb hby at_478) rfl rfl ?_
    refine XS.bipush X264.here hx rfl (hb hby at_479) ?_
    refine XS.bipush X264.here hx rfl (hb hby at_481) ?_
    show SS p e below T264 m 483 #[vI p1, vI p2, vI p3, vI p4, vR b101, vI (Int32.ofNat i), vI m6, vI (((p1.toUInt32 >>> ((2 : Int32) &&& 31).toUInt32).toInt32) &&& (3 : Int32)), vI c8, vI a9, vI a10, vI a11, vI a12, vI (p1 &&& (3 : Int32)), vI (smF c8 m6), .unset, .unset, .unset] [(.int 120), (.int 13), (.ref b238), (.ref b238)] _
    refine st266 _ ?_
    refine XS.dup X266.here hx rfl (hb hby at_484) rfl rfl ?_
    refine XS.bipush X266.here hx rfl (hb hby at_485) ?_
    refine XS.bipush X266.here hx rfl (hb hby at_487) ?_
    show SS p e below T266 m 489 #[vI p1, vI p2, vI p3, vI p4, vR b101, vI (Int32.ofNat i), vI m6, vI (((p1.toUInt32 >>> ((2 : Int32) &&& 31).toUInt32).toInt32) &&& (3 : Int32)), vI c8, vI a9, vI a10, vI a11, vI a12, vI (p1 &&& (3 : Int32)), vI (smF c8 m6), .unset, .unset, .unset] [(.int 45), (.int 14), (.ref b238), (.ref b238)] _
    refine st268 _ ?_
    refine XS.dup X268.here hx rfl (hb hby at_490) rfl rfl ?_
    refine XS.bipush X268.here hx rfl (hb hby at_491) ?_
    refine XS.bipush X268.here hx rfl (hb hby at_493) ?_
    show SS p e below T268 m 495 #[vI p1, vI p2, vI p3, vI p4, vR b101, vI (Int32.ofNat i), vI m6, vI (((p1.toUInt32 >>> ((2 : Int32) &&& 31).toUInt32).toInt32) &&& (3 : Int32)), vI c8, vI a9, vI a10, vI a11, vI a12, vI (p1 &&& (3 : Int32)), vI (smF c8 m6), .unset, .unset, .unset] [(.int 119), (.int 15), (.ref b238), (.ref b238)] _
    refine st270 _ ?_
    refine XS.dup X270.here hx rfl (hb hby at_496) rfl rfl ?_
    refine XS.bipush X270.here hx rfl (hb hby at_497) ?_
    refine XS.bipush X270.here hx rfl (hb hby at_499) ?_
    show SS p e below T270 m 501 #[vI p1, vI p2, vI p3, vI p4, vR b101, vI (Int32.ofNat i), vI m6, vI (((p1.toUInt32 >>> ((2 : Int32) &&& 31).toUInt32).toInt32) &&& (3 : Int32)), vI c8, vI a9, vI a10, vI a11, vI a12, vI (p1 &&& (3 : Int32)), vI (smF c8 m6), .unset, .unset, .unset] [(.int 119), (.int 16), (.ref b238), (.ref b238)] _
    refine st272 _ ?_
    refine XS.dup X272.here hx rfl (hb hby at_502) rfl rfl ?_
    refine XS.bipush X272.here hx rfl (hb hby at_503) ?_
    refine XS.bipush X272.here hx rfl (hb hby at_505) ?_
    show SS p e below T272 m 507 #[vI p1, vI p2, vI p3, vI p4, vR b101, vI (Int32.ofNat i), vI m6, vI (((p1.toUInt32 >>> ((2 : Int32) &&& 31).toUInt32).toInt32) &&& (3 : Int32)), vI c8, vI a9, vI a10, vI a11, vI a12, vI (p1 &&& (3 : Int32)), vI (smF c8 m6), .unset, .unset, .unset] [(.int 119), (.int 17), (.ref b238), (.ref b238)] _
    refine st274 _ ?_
    refine XS.dup X274.here hx rfl (hb hby at_508) rfl rfl ?_
    refine XS.bipush X274.here hx rfl (hb hby at_509) ?_
    refine XS.bipush X274.here hx rfl (hb hby at_511) ?_
    show SS p e below T274 m 513 #[vI p1, vI p2, vI p3, vI p4, vR b101, vI (Int32.ofNat i), vI m6, vI (((p1.toUInt32 >>> ((2 : Int32) &&& 31).toUInt32).toInt32) &&& (3 : Int32)), vI c8, vI a9, vI a10, vI a11, vI a12, vI (p1 &&& (3 : Int32)), vI (smF c8 m6), .unset, .unset, .unset] [(.int 45), (.int 18), (.ref b238), (.ref b238)] _
    refine st276 _ ?_
    refine XS.dup X276.here hx rfl (hb hby at_514) rfl rfl ?_
    refine XS.bipush X276.here hx rfl (hb hby at_515) ?_
    refine XS.bipush X276.here hx rfl (hb hby at_517) ?_
    show SS p e below T276 m 519 #[vI p1, vI p2, vI p3, vI p4, vR b101, vI (Int32.ofNat i), vI m6, vI (((p1.toUInt32 >>> ((2 : Int32) &&& 31).toUInt32).toInt32) &&& (3 : Int32)), vI c8, vI a9, vI a10, vI a11, vI a12, vI (p1 &&& (3 : Int32)), vI (smF c8 m6), .unset, .unset, .unset] [(.int 102), (.int 19), (.ref b238), (.ref b238)] _
    refine st278 _ ?_
    refine XS.dup X278.here hx rfl (hb hby at_520) rfl rfl ?_
    refine XS.bipush X278.here hx rfl (hb hby at_521) ?_
    refine XS.bipush X278.here hx rfl (hb hby at_523) ?_
    show SS p e below T278 m 525 #[vI p1, vI p2, vI p3, vI p4, vR b101, vI (Int32.ofNat i), vI m6, vI (((p1.toUInt32 >>> ((2 : Int32) &&& 31).toUInt32).toInt32) &&& (3 : Int32)), vI c8, vI a9, vI a10, vI a11, vI a12, vI (p1 &&& (3 : Int32)), vI (smF c8 m6), .unset, .unset, .unset] [(.int 111), (.int 20), (.ref b238), (.ref b238)] _
    refine st280 _ ?_
    refine XS.dup X280.here hx rfl (hb hby at_526) rfl rfl ?_
    refine XS.bipush X280.here hx rfl (hb hby at_527) ?_
    refine XS.bipush X280.here hx rfl (hb hby at_529) ?_
    show SS p e below T280 m 531 #[vI p1, vI p2, vI p3, vI p4, vR b101, vI (Int32.ofNat i), vI m6, vI (((p1.toUInt32 >>> ((2 : Int32) &&& 31).toUInt32).toInt32) &&& (3 : Int32)), vI c8, vI a9, vI a10, vI a11, vI a12, vI (p1 &&& (3 : Int32)), vI (smF c8 m6), .unset, .unset, .unset] [(.int 114), (.int 21), (.ref b238), (.ref b238)] _
    refine st282 _ ?_
    refine XS.dup X282.here hx rfl (hb hby at_532) rfl rfl ?_
    refine XS.bipush X282.here hx rfl (hb hby at_533) ?_
    refine XS.bipush X282.here hx rfl (hb hby at_535) ?_
    show SS p e below T282 m 537 #[vI p1, vI p2, vI p3, vI p4, vR b101, vI (Int32.ofNat i), vI m6, vI (((p1.toUInt32 >>> ((2 : Int32) &&& 31).toUInt32).toInt32) &&& (3 : Int32)), vI c8, vI a9, vI a10, vI a11, vI a12, vI (p1 &&& (3 : Int32)), vI (smF c8 m6), .unset, .unset, .unset] [(.int 109), (.int 22), (.ref b238), (.ref b238)] _
    refine st284 _ ?_
    refine XS.dup X284.here hx rfl (hb hby at_538) rfl rfl ?_
    refine XS.bipush X284.here hx rfl (hb hby at_539) ?_
    refine XS.bipush X284.here hx rfl (hb hby at_541) ?_
    show SS p e below T284 m 543 #[vI p1, vI p2, vI p3, vI p4, vR b101, vI (Int32.ofNat i), vI m6, vI (((p1.toUInt32 >>> ((2 : Int32) &&& 31).toUInt32).toInt32) &&& (3 : Int32)), vI c8, vI a9, vI a10, vI a11, vI a12, vI (p1 &&& (3 : Int32)), vI (smF c8 m6), .unset, .unset, .unset] [(.int 45), (.int 23), (.ref b238), (.ref b238)] _
    refine st286 _ ?_
    refine XS.dup X286.here hx rfl (hb hby at_544) rfl rfl ?_
    refine XS.bipush X286.here hx rfl (hb hby at_545) ?_
    refine XS.bipush X286.here hx rfl (hb hby at_547) ?_
    show SS p e below T286 m 549 #[vI p1, vI p2, vI p3, vI p4, vR b101, vI (Int32.ofNat i), vI m6, vI (((p1.toUInt32 >>> ((2 : Int32) &&& 31).toUInt32).toInt32) &&& (3 : Int32)), vI c8, vI a9, vI a10, vI a11, vI a12, vI (p1 &&& (3 : Int32)), vI (smF c8 m6), .unset, .unset, .unset] [(.int 117), (.int 24), (.ref b238), (.ref b238)] _
    refine st288 _ ?_
    refine XS.dup X288.here hx rfl (hb hby at_550) rfl rfl ?_
    refine XS.bipush X288.here hx rfl (hb hby at_551) ?_
    refine XS.bipush X288.here hx rfl (hb hby at_553) ?_
    show SS p e below T288 m 555 #[vI p1, vI p2, vI p3, vI p4, vR b101, vI (Int32.ofNat i), vI m6, vI (((p1.toUInt32 >>> ((2 : Int32) &&& 31).toUInt32).toInt32) &&& (3 : Int32)), vI c8, vI a9, vI a10, vI a11, vI a12, vI (p1 &&& (3 : Int32)), vI (smF c8 m6), .unset, .unset, .unset] [(.int 114), (.int 25), (.ref b238), (.ref b238)] _
    refine st290 _ ?_
    refine XS.dup X290.here hx rfl (hb hby at_556) rfl rfl ?_
    refine XS.bipush X290.here hx rfl (hb hby at_557) ?_
    refine XS.bipush X290.here hx rfl (hb hby at_559) ?_
    show SS p e below T290 m 561 #[vI p1, vI p2, vI p3, vI p4, vR b101, vI (Int32.ofNat i), vI m6, vI (((p1.toUInt32 >>> ((2 : Int32) &&& 31).toUInt32).toInt32) &&& (3 : Int32)), vI c8, vI a9, vI a10, vI a11, vI a12, vI (p1 &&& (3 : Int32)), vI (smF c8 m6), .unset, .unset, .unset] [(.int 108), (.int 26), (.ref b238), (.ref b238)] _
    refine st292 _ ?_
    refine XS.dup X292.here hx rfl (hb hby at_562) rfl rfl ?_
    refine XS.bipush X292.here hx rfl (hb hby at_563) ?_
    refine XS.bipush X292.here hx rfl (hb hby at_565) ?_
    show SS p e below T292 m 567 #[vI p1, vI p2, vI p3, vI p4, vR b101, vI (Int32.ofNat i), vI m6, vI (((p1.toUInt32 >>> ((2 : Int32) &&& 31).toUInt32).toInt32) &&& (3 : Int32)), vI c8, vI a9, vI a10, vI a11, vI a12, vI (p1 &&& (3 : Int32)), vI (smF c8 m6), .unset, .unset, .unset] [(.int 101), (.int 27), (.ref b238), (.ref b238)] _
    refine st294 _ ?_
    refine XS.dup X294.here hx rfl (hb hby at_568) rfl rfl ?_
    refine XS.bipush X294.here hx rfl (hb hby at_569) ?_
    refine XS.bipush X294.here hx rfl (hb hby at_571) ?_
    show SS p e below T294 m 573 #[vI p1, vI p2, vI p3, vI p4, vR b101, vI (Int32.ofNat i), vI m6, vI (((p1.toUInt32 >>> ((2 : Int32) &&& 31).toUInt32).toInt32) &&& (3 : Int32)), vI c8, vI a9, vI a10, vI a11, vI a12, vI (p1 &&& (3 : Int32)), vI (smF c8 m6), .unset, .unset, .unset] [(.int 110), (.int 28), (.ref b238), (.ref b238)] _
    refine st296 _ ?_
    refine XS.dup X296.here hx rfl (hb hby at_574) rfl rfl ?_
    refine XS.bipush X296.here hx rfl (hb hby at_575) ?_
    refine XS.bipush X296.here hx rfl (hb hby at_577) ?_
    show SS p e below T296 m 579 #[vI p1, vI p2, vI p3, vI p4, vR b101, vI (Int32.ofNat i), vI m6, vI (((p1.toUInt32 >>> ((2 : Int32) &&& 31).toUInt32).toInt32) &&& (3 : Int32)), vI c8, vI a9, vI a10, vI a11, vI a12, vI (p1 &&& (3 : Int32)), vI (smF c8 m6), .unset, .unset, .unset] [(.int 99), (.int 29), (.ref b238), (.ref b238)] _
    refine st298 _ ?_
    refine XS.dup X298.here hx rfl (hb hby at_580) rfl rfl ?_
    refine XS.bipush X298.here hx rfl (hb hby at_581) ?_
    refine XS.bipush X298.here hx rfl (hb hby at_583) ?_
    show SS p e below T298 m 585 #[vI p1, vI p2, vI p3, vI p4, vR b101, vI (Int32.ofNat i), vI m6, vI (((p1.toUInt32 >>> ((2 : Int32) &&& 31).toUInt32).toInt32) &&& (3 : Int32)), vI c8, vI a9, vI a10, vI a11, vI a12, vI (p1 &&& (3 : Int32)), vI (smF c8 m6), .unset, .unset, .unset] [(.int 111), (.int 30), (.ref b238), (.ref b238)] _
    refine st300 _ ?_
    refine XS.dup X300.here hx rfl (hb hby at_586) rfl rfl ?_
    refine XS.bipush X300.here hx rfl (hb hby at_587) ?_
    refine XS.bipush X300.here hx rfl (hb hby at_589) ?_
    show SS p e below T300 m 591 #[vI p1, vI p2, vI p3, vI p4, vR b101, vI (Int32.ofNat i), vI m6, vI (((p1.toUInt32 >>> ((2 : Int32) &&& 31).toUInt32).toInt32) &&& (3 : Int32)), vI c8, vI a9, vI a10, vI a11, vI a12, vI (p1 &&& (3 : Int32)), vI (smF c8 m6), .unset, .unset, .unset] [(.int 100), (.int 31), (.ref b238), (.ref b238)] _
    refine st302 _ ?_
    refine XS.dup X302.here hx rfl (hb hby at_592) rfl rfl ?_
    refine XS.bipush X302.here hx rfl (hb hby at_593) ?_
    refine XS.bipush X302.here hx rfl (hb hby at_595) ?_
    show SS p e below T302 m 597 #[vI p1, vI p2, vI p3, vI p4, vR b101, vI (Int32.ofNat i), vI m6, vI (((p1.toUInt32 >>> ((2 : Int32) &&& 31).toUInt32).toInt32) &&& (3 : Int32)), vI c8, vI a9, vI a10, vI a11, vI a12, vI (p1 &&& (3 : Int32)), vI (smF c8 m6), .unset, .unset, .unset] [(.int 101), (.int 32), (.ref b238), (.ref b238)] _
    refine st304 _ ?_
    refine XS.dup X304.here hx rfl (hb hby at_598) rfl rfl ?_
    refine XS.bipush X304.here hx rfl (hb hby at_599) ?_
    refine XS.bipush X304.here hx rfl (hb hby at_601) ?_
    show SS p e below T304 m 603 #[vI p1, vI p2, vI p3, vI p4, vR b101, vI (Int32.ofNat i), vI m6, vI (((p1.toUInt32 >>> ((2 : Int32) &&& 31).toUInt32).toInt32) &&& (3 : Int32)), vI c8, vI a9, vI a10, vI a11, vI a12, vI (p1 &&& (3 : Int32)), vI (smF c8 m6), .unset, .unset, .unset] [(.int 100), (.int 33), (.ref b238), (.ref b238)] _
    refine st306 _ ?_
    refine XS.dup X306.here hx rfl (hb hby at_604) rfl rfl ?_
    refine XS.bipush X306.here hx rfl (hb hby at_605) ?_
    refine XS.bipush X306.here hx rfl (hb hby at_607) ?_
    show SS p e below T306 m 609 #[vI p1, vI p2, vI p3, vI p4, vR b101, vI (Int32.ofNat i), vI m6, vI (((p1.toUInt32 >>> ((2 : Int32) &&& 31).toUInt32).toInt32) &&& (3 : Int32)), vI c8, vI a9, vI a10, vI a11, vI a12, vI (p1 &&& (3 : Int32)), vI (smF c8 m6), .unset, .unset, .unset] [(.int 32), (.int 34), (.ref b238), (.ref b238)] _
    refine st308 _ ?_
    refine XS.dup X308.here hx rfl (hb hby at_610) rfl rfl ?_
    refine XS.bipush X308.here hx rfl (hb hby at_611) ?_
    refine XS.bipush X308.here hx rfl (hb hby at_613) ?_
    show SS p e below T308 m 615 #[vI p1, vI p2, vI p3, vI p4, vR b101, vI (Int32.ofNat i), vI m6, vI (((p1.toUInt32 >>> ((2 : Int32) &&& 31).toUInt32).toInt32) &&& (3 : Int32)), vI c8, vI a9, vI a10, vI a11, vI a12, vI (p1 &&& (3 : Int32)), vI (smF c8 m6), .unset, .unset, .unset] [(.int 32), (.int 35), (.ref b238), (.ref b238)] _
    refine st310 _ ?_
    refine XS.dup X310.here hx rfl (hb hby at_616) rfl rfl ?_
    refine XS.bipush X310.here hx rfl (hb hby at_617) ?_
    refine XS.bipush X310.here hx rfl (hb hby at_619) ?_
    show SS p e below T310 m 621 #[vI p1, vI p2, vI p3, vI p4, vR b101, vI (Int32.ofNat i), vI m6, vI (((p1.toUInt32 >>> ((2 : Int32) &&& 31).toUInt32).toInt32) &&& (3 : Int32)), vI c8, vI a9, vI a10, vI a11, vI a12, vI (p1 &&& (3 : Int32)), vI (smF c8 m6), .unset, .unset, .unset] [(.int 32), (.int 36), (.ref b238), (.ref b238)] _
    refine st312 _ ?_
    refine XS.astore X312.here hx rfl (hb hby at_622) rfl rfl (l' := #[vI p1, vI p2, vI p3, vI p4, vR b101, vI (Int32.ofNat i), vI m6, vI (((p1.toUInt32 >>> ((2 : Int32) &&& 31).toUInt32).toInt32) &&& (3 : Int32)), vI c8, vI a9, vI a10, vI a11, vI a12, vI (p1 &&& (3 : Int32)), vI (smF c8 m6), vR b238, .unset, .unset]) rfl ?_
    refine XS.aload X312.here hx rfl (hb hby at_624) rfl rfl ?_
    refine XS.iconst X312.here hx rfl (hb hby at_626) ?_
    refine XS.iload X312.here hx rfl (hb hby at_627) rfl ?_
    show SS p e below T312 m 629 #[vI p1, vI p2, vI p3, vI p4, vR b101, vI (Int32.ofNat i), vI m6, vI (((p1.toUInt32 >>> ((2 : Int32) &&& 31).toUInt32).toInt32) &&& (3 : Int32)), vI c8, vI a9, vI a10, vI a11, vI a12, vI (p1 &&& (3 : Int32)), vI (smF c8 m6), vR b238, .unset, .unset] [(.int a9), (.int 0), (.ref b238)] _
    refine st314 _ ?_
    refine XS.aload X314.here hx rfl (hb hby at_630) rfl rfl ?_
    refine XS.iconst X314.here hx rfl (hb hby at_632) ?_
    refine XS.iload X314.here hx rfl (hb hby at_633) rfl ?_
    refine XS.iadd X314.here hx rfl (hb hby at_635) rfl ?_
    show SS p e below T314 m 636 #[vI p1, vI p2, vI p3, vI p4, vR b101, vI (Int32.ofNat i), vI m6, vI (((p1.toUInt32 >>> ((2 : Int32) &&& 31).toUInt32).toInt32) &&& (3 : Int32)), vI c8, vI a9, vI a10, vI a11, vI a12, vI (p1 &&& (3 : Int32)), vI (smF c8 m6), vR b238, .unset, .unset] [(.int ((1 : Int32) + (Int32.ofNat i))), (.ref b238)] _
    rw [hr316]
    refine XS.iload X314.here hx rfl (hb hby at_636) rfl ?_
    show SS p e below T314 m 638 #[vI p1, vI p2, vI p3, vI p4, vR b101, vI (Int32.ofNat i), vI m6, vI (((p1.toUInt32 >>> ((2 : Int32) &&& 31).toUInt32).toInt32) &&& (3 : Int32)), vI c8, vI a9, vI a10, vI a11, vI a12, vI (p1 &&& (3 : Int32)), vI (smF c8 m6), vR b238, .unset, .unset] [(.int c8), (.int (Int32.ofNat (1 + i))), (.ref b238)] _
    refine st318 _ ?_
    refine XS.aload X318.here hx rfl (hb hby at_639) rfl rfl ?_
    refine XS.bipush X318.here hx rfl (hb hby at_641) ?_
    refine XS.iload X318.here hx rfl (hb hby at_643) rfl ?_
    show SS p e below T318 m 645 #[vI p1, vI p2, vI p3, vI p4, vR b101, vI (Int32.ofNat i), vI m6, vI (((p1.toUInt32 >>> ((2 : Int32) &&& 31).toUInt32).toInt32) &&& (3 : Int32)), vI c8, vI a9, vI a10, vI a11, vI a12, vI (p1 &&& (3 : Int32)), vI (smF c8 m6), vR b238, .unset, .unset] [(.int a10), (.int 34), (.ref b238)] _
    refine st320 _ ?_
    refine XS.aload X320.here hx rfl (hb hby at_646) rfl rfl ?_
    refine XS.bipush X320.here hx rfl (hb hby at_648) ?_
    refine XS.iload X320.here hx rfl (hb hby at_650) rfl ?_
    show SS p e below T320 m 652 #[vI p1, vI p2, vI p3, vI p4, vR b101, vI (Int32.ofNat i), vI m6, vI (((p1.toUInt32 >>> ((2 : Int32) &&& 31).toUInt32).toInt32) &&& (3 : Int32)), vI c8, vI a9, vI a10, vI a11, vI a12, vI (p1 &&& (3 : Int32)), vI (smF c8 m6), vR b238, .unset, .unset] [(.int a11), (.int 35), (.ref b238)] _
    refine st322 _ ?_
    refine XS.aload X322.here hx rfl (hb hby at_653) rfl rfl ?_
    refine XS.bipush X322.here hx rfl (hb hby at_655) ?_
    refine XS.iload X322.here hx rfl (hb hby at_657) rfl ?_
    show SS p e below T322 m 659 #[vI p1, vI p2, vI p3, vI p4, vR b101, vI (Int32.ofNat i), vI m6, vI (((p1.toUInt32 >>> ((2 : Int32) &&& 31).toUInt32).toInt32) &&& (3 : Int32)), vI c8, vI a9, vI a10, vI a11, vI a12, vI (p1 &&& (3 : Int32)), vI (smF c8 m6), vR b238, .unset, .unset] [(.int a12), (.int 36), (.ref b238)] _
    refine st324 _ ?_
    exact kt
   have O328 : Old Z n0 h238 := O105.keep K238 all0
   have O329 : Old Z n0 h240 := O328.keep K240 (allS (by omega) (all0))
   have O330 : Old Z n0 h242 := O329.keep K242 (allS (by omega) (all0))
   have O331 : Old Z n0 h244 := O330.keep K244 (allS (by omega) (all0))
   have O332 : Old Z n0 h246 := O331.keep K246 (allS (by omega) (all0))
   have O333 : Old Z n0 h248 := O332.keep K248 (allS (by omega) (all0))
   have O334 : Old Z n0 h250 := O333.keep K250 (allS (by omega) (all0))
   have O335 : Old Z n0 h252 := O334.keep K252 (allS (by omega) (all0))
   have O336 : Old Z n0 h254 := O335.keep K254 (allS (by omega) (all0))
   have O337 : Old Z n0 h256 := O336.keep K256 (allS (by omega) (all0))
   have O338 : Old Z n0 h258 := O337.keep K258 (allS (by omega) (all0))
   have O339 : Old Z n0 h260 := O338.keep K260 (allS (by omega) (all0))
   have O340 : Old Z n0 h262 := O339.keep K262 (allS (by omega) (all0))
   have O341 : Old Z n0 h264 := O340.keep K264 (allS (by omega) (all0))
   have O342 : Old Z n0 h266 := O341.keep K266 (allS (by omega) (all0))
   have O343 : Old Z n0 h268 := O342.keep K268 (allS (by omega) (all0))
   have O344 : Old Z n0 h270 := O343.keep K270 (allS (by omega) (all0))
   have O345 : Old Z n0 h272 := O344.keep K272 (allS (by omega) (all0))
   have O346 : Old Z n0 h274 := O345.keep K274 (allS (by omega) (all0))
   have O347 : Old Z n0 h276 := O346.keep K276 (allS (by omega) (all0))
   have O348 : Old Z n0 h278 := O347.keep K278 (allS (by omega) (all0))
   have O349 : Old Z n0 h280 := O348.keep K280 (allS (by omega) (all0))
   have O350 : Old Z n0 h282 := O349.keep K282 (allS (by omega) (all0))
   have O351 : Old Z n0 h284 := O350.keep K284 (allS (by omega) (all0))
   have O352 : Old Z n0 h286 := O351.keep K286 (allS (by omega) (all0))
   have O353 : Old Z n0 h288 := O352.keep K288 (allS (by omega) (all0))
   have O354 : Old Z n0 h290 := O353.keep K290 (allS (by omega) (all0))
   have O355 : Old Z n0 h292 := O354.keep K292 (allS (by omega) (all0))
   have O356 : Old Z n0 h294 := O355.keep K294 (allS (by omega) (all0))
   have O357 : Old Z n0 h296 := O356.keep K296 (allS (by omega) (all0))
   have O358 : Old Z n0 h298 := O357.keep K298 (allS (by omega) (all0))
   have O359 : Old Z n0 h300 := O358.keep K300 (allS (by omega) (all0))
   have O360 : Old Z n0 h302 := O359.keep K302 (allS (by omega) (all0))
   have O361 : Old Z n0 h304 := O360.keep K304 (allS (by omega) (all0))
   have O362 : Old Z n0 h306 := O361.keep K306 (allS (by omega) (all0))
   have O363 : Old Z n0 h308 := O362.keep K308 (allS (by omega) (all0))
   have O364 : Old Z n0 h310 := O363.keep K310 (allS (by omega) (all0))
   have O365 : Old Z n0 h312 := O364.keep K312 (allS (by omega) (all0))
   have O366 : Old Z n0 h314 := O365.keep K314 (allS (by omega) (all0))
   have O367 : Old Z n0 h318 := O366.keep K318 (allS (by omega) (all0))
   have O368 : Old Z n0 h320 := O367.keep K320 (allS (by omega) (all0))
   have O369 : Old Z n0 h322 := O368.keep K322 (allS (by omega) (all0))
   have O370 : Old Z n0 h324 := O369.keep K324 (allS (by omega) (all0))
   obtain ⟨T327, h327, L327, X327, e327, N327, H327, st327⟩ := tnR p1 p2 p3 p4 m6 c8 a9 a10 a11 a12 (smF c8 m6) b101 b238 i (X324.more (by decide) (by decide)) hx hZ101 hw hby hml hown101 e324 O370 N324
   have f327 := e327.trans H327
   have pre371 : ∀ t, SS p e below T327 m 712 #[vI p1, vI p2, vI p3, vI p4, vR b101, vI (Int32.ofNat i), vI m6, vI (((p1.toUInt32 >>> ((2 : Int32) &&& 31).toUInt32).toInt32) &&& (3 : Int32)), vI c8, vI a9, vI a10, vI a11, vI a12, vI (p1 &&& (3 : Int32)), vI (smF c8 m6), vR b238, vI (rsF a10 a11 a12), .unset] [] t → SE p e below s₁ m #[(.int p1), (.int p2), (.int p3), (.int p4)] maxLocals t := by
    intro t kt
    refine pre326 _ ?_
    refine st327 _ ?_
    exact kt
   obtain ⟨T372, h372, L372, X372, e372, N372, H372, st372⟩ := tnX p1 p2 p3 p4 m6 c8 a9 a10 a11 a12 (smF c8 m6) (rsF a10 a11 a12) b101 b238 i (X327.more (by decide) (by decide)) hx hZ101 hw hby hml hown101 f327 O370 N327
   have f372 := e372.trans H372
   obtain ⟨T373, h373, X373, e373, E373, A373, D373, -, st373⟩ := newO X372 hx hZ101 hown101 (tw hw 35 rfl) (tw hw 2 rfl) (tw hw 1 rfl) f372 (g := (mkF m 737 #[vI p1, vI p2, vI p3, vI p4, vR b101, vI (Int32.ofNat i), vI m6, vI (((p1.toUInt32 >>> ((2 : Int32) &&& 31).toUInt32).toInt32) &&& (3 : Int32)), vI c8, vI a9, vI a10, vI a11, vI a12, vI (p1 &&& (3 : Int32)), vI (smF c8 m6), vR b238, vI (rsF a10 a11 a12), vI (exF a9 (smF c8 m6) (rsF a10 a11 a12))] [])) rfl (hb hby at_737) (by decide) (by decide)
   obtain ⟨b373, g373⟩ : ∃ z, z = h324.size := ⟨_, rfl⟩
   rw [← g373] at A373 D373 st373
   have lt373 : @LT.lt Nat _ b373 h373.size := A373.lt
   have K373 : Keep h324 h373 [] := (Keep.refl _ _).ext E373
   have cR45_K373 := cR44_K324.trans (CHr.keep K373 sf0 cR44_K324.1)
   have sz45_K373 := K373.1
   have F373_value : Fld Z h373 b373 "java/lang/String" "value" "[B" .null := D373 (Or.inr (tw hw 4 rfl)) (ty := (.array .byte)) (by decide)
   have F373_coder : Fld Z h373 b373 "java/lang/String" "coder" "B" (.int 0) := D373 (Or.inr (tw hw 5 rfl)) (ty := .byte) (by decide)
   have C375 := VL325.keep K373 nin0
   have O376 : Old Z n0 h373 := O370.keep K373 all0
   obtain ⟨_, _, ⟨T374, L374, k374, n374⟩, -, X374, ⟨Lc374, hQ374, l374, y374, z374⟩, st374⟩ := X373.specialBack hx (y := mN36) rfl hown101 (mvT hZ101 (tw hw 36 rfl)) (mvT hZ101 (tw hw 37 rfl)) (mvT hZ101 (tw hw 38 rfl)) (by decide) (StrChars.Road.backV (W := 1) hZ101 hws (kI := 4) (tw hw 2 rfl) (cs := (a9 :: (media.set i c8 ++ [a10, a11, a12]))) (bs := (a9 :: (media.set i c8 ++ [a10, a11, a12])).map (fun c => c.toInt8.toInt32)) (n := 37) (by omega : @LE.le Nat _ n0 b373) (by omega) A373 F373_value F373_coder C375 (Sta.ext O376.2 S_CS) c_CS (by simp [own_medlen]) (by decide) (by decide) (by decide) hmem rfl (by decide) (by decide)) (g := (mkF m 743 #[vI p1, vI p2, vI p3, vI p4, vR b101, vI (Int32.ofNat i), vI m6, vI (((p1.toUInt32 >>> ((2 : Int32) &&& 31).toUInt32).toInt32) &&& (3 : Int32)), vI c8, vI a9, vI a10, vI a11, vI a12, vI (p1 &&& (3 : Int32)), vI (smF c8 m6), vR b238, vI (rsF a10 a11 a12), vI (exF a9 (smF c8 m6) (rsF a10 a11 a12))] [(.ref b238), (.ref b373), (.ref b373)])) rfl (by rw [hml]; rfl) (Steps.refl _) (a := b373) (argsL := [(.ref b238)]) (rest := [(.ref b373)]) (lenOf pd_5 rfl) rfl (wL _) (hb hby at_743) (fun _ _ => ⟨rfl, e373, (by decide : 6 + 1 ≤ _), (by decide : 304 + 37 ≤ _)⟩)
   dsimp only [Pt.U, Pt.locs, Pt.cells, Pt.slots] at X374 l374 y374 z374 st374 hQ374
   rw [l374] at X374
   subst y374 z374
   obtain ⟨rfl, N374q, K374, E374, C374, t374, kb374, ge374, gh374, tx374, Vf374, Av374⟩ := hQ374
   have lt374 : @LT.lt Nat _ t374 T374.heap.size := Av374.lt
   have tx374' : @Ne Nat t374 b373 := tx374
   have Sf377 : Safe Z EL1 T101.vm h324 b373 := Safe.new (by omega)
   have Sf378 := Safe.keep K373 sf0 cR44_K324.1 Sf377
   have hs46_K374 : ∀ x ∈ ([b373] : List Addr), Safe Z EL1 T101.vm h373 x := sfS Sf378 (sf0)
   have cR46_K374 := cR45_K373.trans (CHr.keep K374 hs46_K374 cR45_K373.1)
   have sz46_K374 := K374.1
   have Az374 : Arv Z T374.heap t374 kb374 .byte (Int32.ofNat (lat (a9 :: (media.set i c8 ++ [a10, a11, a12]))).length) ((lat (a9 :: (media.set i c8 ++ [a10, a11, a12]))).map Value.int) (.int 0) := by have h := Av374; rw [List.length_map, show (a9 :: (media.set i c8 ++ [a10, a11, a12])).length = 37 by simp [own_medlen]]; exact h
   have N374 := Fr.app N372 N374q
   have O380 : Old Z n0 T374.heap := O376.keep K374 (allS (by omega) (all0))
   obtain ⟨_, _, ⟨T379, L379, k379, n379⟩, -, X379q, hSq379, hgr379, ⟨Lc379, hQ379, l379, y379, z379, cr379⟩, st379⟩ := callSS X374 hx (y := mN33) hown101 (mvT hZ101 (tw hw 56 rfl)) (mvT hZ101 (tw hw 57 rfl)) (mvT hZ101 (tw hw 58 rfl)) (mvT hZ101 (tw hw 59 rfl)) (by decide) (backOfSH (s := s) (vm0 := T101.vm) (EL := EL1) (W := 0) (rmIsf l Z a0 hw [] b373 (lat (a9 :: (media.set i c8 ++ [a10, a11, a12]))) cs0 t374 kb374 fm cin ta kA T374.heap n0 O380 S_CS c_CS E374 Vf374 C374 Az374 (by rw [List.length_map]; simp [own_medlen]) (by rw [List.length_map]; simp [own_medlen]) S_FM r_FM S_IN E_IN S_A V_A) hZ101 (tw hw 59 rfl) (tw hw 58 rfl) (by decide) (by decide) hEW cR46_K374.1) (g := (mkF m 746 #[vI p1, vI p2, vI p3, vI p4, vR b101, vI (Int32.ofNat i), vI m6, vI (((p1.toUInt32 >>> ((2 : Int32) &&& 31).toUInt32).toInt32) &&& (3 : Int32)), vI c8, vI a9, vI a10, vI a11, vI a12, vI (p1 &&& (3 : Int32)), vI (smF c8 m6), vR b238, vI (rsF a10 a11 a12), vI (exF a9 (smF c8 m6) (rsF a10 a11 a12))] [(.ref b373)])) rfl (by rw [hml]; rfl) (argsL := [(.ref b373)]) (rest := []) (lenOf pd_11 rfl) rfl (wL _) (hb hby at_746) (fun _ _ => ⟨rfl, rfl, (by decide : 7 + 12 ≤ _), (by decide : 341 + 236 ≤ _)⟩)
   dsimp only [Pt.U, Pt.locs, Pt.cells, Pt.slots] at X379q l379 y379 z379 st379 hQ379 hSq379 hgr379 cr379
   rw [l379] at X379q
   subst y379 z379
   obtain ⟨X379, hS379, hZ379, hown379⟩ := rebS (s := s) (vm0 := T101.vm) hS101 (by omega) X379q hSq379 hgr379 hZ101 hown101
   obtain ⟨rfl, N379q, K379⟩ := hQ379
   have cR47_K379 := cR46_K374.trans cr379
   have sz47_K379 := K379.1
   have N379 := Fr.app N374 N379q
   obtain ⟨fs, hr, hrun, hended, eR, eW, eI, eS⟩ := Stand.leaveW (s := s) (vm₁ := T379.vm) X379 hS379 (by omega) (v := some (.int 1)) (nvr Bd.returns)
   refine ⟨_, _, pre371 _ ?_, hrun, hended, _, _, rfl, ?_, eR, eW, eI, eS.mono (by decide) (by decide)⟩
   ·skip
    refine st372 _ ?_
    show SS p e below T372 m 737 #[vI p1, vI p2, vI p3, vI p4, vR b101, vI (Int32.ofNat i), vI m6, vI (((p1.toUInt32 >>> ((2 : Int32) &&& 31).toUInt32).toInt32) &&& (3 : Int32)), vI c8, vI a9, vI a10, vI a11, vI a12, vI (p1 &&& (3 : Int32)), vI (smF c8 m6), vR b238, vI (rsF a10 a11 a12), vI (exF a9 (smF c8 m6) (rsF a10 a11 a12))] [] _
    refine st373 _ ?_
    refine XS.dup X373.here hx rfl (hb hby at_740) rfl rfl ?_
    refine XS.aload X373.here hx rfl (hb hby at_741) rfl rfl ?_
    show SS p e below T373 m 743 #[vI p1, vI p2, vI p3, vI p4, vR b101, vI (Int32.ofNat i), vI m6, vI (((p1.toUInt32 >>> ((2 : Int32) &&& 31).toUInt32).toInt32) &&& (3 : Int32)), vI c8, vI a9, vI a10, vI a11, vI a12, vI (p1 &&& (3 : Int32)), vI (smF c8 m6), vR b238, vI (rsF a10 a11 a12), vI (exF a9 (smF c8 m6) (rsF a10 a11 a12))] [(.ref b238), (.ref b373), (.ref b373)] _
    refine st374.trans ?_
    show SS p e below T374 m 746 #[vI p1, vI p2, vI p3, vI p4, vR b101, vI (Int32.ofNat i), vI m6, vI (((p1.toUInt32 >>> ((2 : Int32) &&& 31).toUInt32).toInt32) &&& (3 : Int32)), vI c8, vI a9, vI a10, vI a11, vI a12, vI (p1 &&& (3 : Int32)), vI (smF c8 m6), vR b238, vI (rsF a10 a11 a12), vI (exF a9 (smF c8 m6) (rsF a10 a11 a12))] [(.ref b373)] _
    refine st379.trans ?_
    refine XS.iload X379.here hx rfl (hb hby at_749) rfl ?_
    refine XS.icmpNo X379.here hx rfl (hb hby at_751) rfl (teq (by rw [show lat (a9 :: (media.set i c8 ++ [a10, a11, a12])) = byt a9 :: (lat (media.set i c8) ++ [byt a10, byt a11, byt a12]) by simp [lat], isF_1 rc8 ra9 ra10 ra11 ra12 hi, em6, own_exF rm6] : (isF (lat (a9 :: (media.set i c8 ++ [a10, a11, a12])))) = (exF a9 (smF c8 m6) (rsF a10 a11 a12)))).2 ?_
    refine XS.iconst X379.here hx rfl (hb hby at_754) ?_
    refine XS.goto X379.here hx rfl (pc0 := 755) (pc' := 759) rfl (hb hby at_755) (by decide) (by decide) ?_
    show SS p e below T379 m 759 #[vI p1, vI p2, vI p3, vI p4, vR b101, vI (Int32.ofNat i), vI m6, vI (((p1.toUInt32 >>> ((2 : Int32) &&& 31).toUInt32).toInt32) &&& (3 : Int32)), vI c8, vI a9, vI a10, vI a11, vI a12, vI (p1 &&& (3 : Int32)), vI (smF c8 m6), vR b238, vI (rsF a10 a11 a12), vI (exF a9 (smF c8 m6) (rsF a10 a11 a12))] [(.int 1)] _
    exact retN X379 hx (t := .boolean) Bd.returns (by simp) (hb hby at_759) hr
   ·show Q_rm0 Z p1 p2 p3 p4 cs0 fm cin ta kA h0 n0 _ T379.heap _
    exact ⟨rfl, N379⟩
theorem own_jd : ∀ j, j < 256 → jdkStatics_1[17 + j]? = some (Jvm.Cond.eq (Jvm.Term.elem (Jvm.Term.static "java/lang/CharacterDataLatin1" "A" "[I") (Jvm.Term.int (Int32.ofNat j))) (Jvm.Term.int (tabA.getD j 0))) := by decide +kernel
theorem own_el {s : State} {args : Array Value} {t : Term} {a : Addr} {cl : Cell} {k v : Int32} {i : Nat} (ev : t.eval args s none [] s = some (.ref a)) (ha : s.arrayAt? a = some cl) (hk : ¬ k < 0) (hi : k.toNatClampNeg = i) (h : (Jvm.Cond.eq (Jvm.Term.elem t (Jvm.Term.int k)) (Jvm.Term.int v)).value args s none s [] = some true) : cl.slots[i]? = some (.int v) := by
 obtain ⟨x, y, ex, ey, k1, k2⟩ := cmp_v (Or.inl h)
 have ey' : y = .int v := Option.some.inj (ey.symm.trans (Term.int_eval v))
 subst ey'
 obtain ⟨z, rfl⟩ := k2
 have hz : z = v := gotT (Cond.eq_ints ex ey) h
 subst hz
 rw [elem_f ev (Term.int_eval k) ha hk, hi] at ex
 exact ex
theorem own_hasL {c : Cell} {d : Value} : ∀ (vs : List Value) (i : Nat), (∀ j, j < vs.length → c.slots[i + j]? = some (vs.getD j d)) → HasL c i vs
 | [], _, _ => trivial
 | v :: r, i, h => ⟨h 0 (Nat.zero_lt_succ _), own_hasL r (i + 1) fun j hj => by have := h (j + 1) (Nat.succ_lt_succ hj); rw [show i + (j + 1) = i + 1 + j by omega] at this; exact this⟩
theorem own_arvT {s : State} {args : Array Value} {t : Term} {a : Addr} (hf : Fit s) (ev : t.eval args s none [] s = some (.ref a)) (h1 : (Cond.arrayOf t .int).value args s none s [] = some true) (h2 : (Cond.eq (Term.length t) (Term.int 256)).value args s none s [] = some true) (h3 : ∀ j, j < 256 → (Jvm.Cond.eq (Jvm.Term.elem t (Jvm.Term.int (Int32.ofNat j))) (Jvm.Term.int (tabA.getD j 0))).value args s none s [] = some true) : ∃ k, Arv s s.heap a k .int (256 : Int32) (tabA.map Value.int) (.int 0) := by
 obtain ⟨cl, A⟩ := Arr.start ev h1
 have ha : s.arrayAt? a = some cl := A.fin (Vm.Alike.refl _)
 by_cases hl : cl.slots.size < 2 ^ 31
 ·have e2 : cl.slots.size.toInt32 = 256 := gotT (Cond.eq_ints (len_f ev ha hl) (Term.int_eval 256)) h2
  refine ⟨_, Arv.start hf A hl e2 (by decide) (by rw [List.length_map, own_tablen]; decide) (own_hasL (d := .int 0) _ 0 fun j hj => ?_)⟩
  rw [List.length_map, own_tablen] at hj
  rw [own_getDk _ (by rw [own_tablen]; exact hj), Nat.zero_add]
  exact own_el ev ha (own_nn (by omega)) (own_nat (by omega)) (h3 j hj)
 ·exfalso
  obtain ⟨x, y, ex, ey, -⟩ := cmp_v (Or.inl h2)
  simp [Term.eval, ev, ha, hl] at ex
theorem comes_1 {Post : Tables → Env → Array Value → State → Outcome → State → Prop} (hpost : ∀ tb e args s v u, (limb_1_1.after args s (.returned v) u = true ∧ limb_1_2.after args s (.returned v) u = true ∧ True) → ReturnedEndW s (.returned v) u (Jvm.fieldLocs frame_1_writes args s ++ Jvm.arrayLocs frame_1_arrays args s ++ Jvm.staticLocs frame_1_statics s) 24 3392 → Post tb e args s (.returned v) u) :
  ArmFor flags0 classFile x code maxLocals ret World_1 tables_1 room_1 Calls_1 rest_1 Pre_1 Post := by
 intro l hfl _ _ p e ha hc hk s m args below hf hA hF happ hP
 obtain ⟨hcalls, hrest, hpre⟩ := hP
 obtain ⟨-, -, -, hnamed, -, -, -, hat⟩ := (Spec.applies_iff hf).mp happ
 obtain ⟨hg, hn⟩ := and_e (Cond.before_iff.mp (show (Jvm.Cond.and given_1 narrow_1).before args s = true from hpre))
 obtain ⟨gc, g0⟩ := and_e hg
 obtain ⟨ga0, g1⟩ := and_e g0
 obtain ⟨ga1, g2⟩ := and_e g1
 obtain ⟨ga2, g3⟩ := and_e g2
 have ga3 := g3
 obtain ⟨w0, w1, w2, w3, rfl⟩ : ∃ w0 w1 w2 w3 : Value, args = #[w0, w1, w2, w3] := by
  have hs : args.size = 4 := by simpa [Cond.value, given_1] using gc
  obtain ⟨L⟩ := args
  match L, hs with
  | [w0, w1, w2, w3], _ => exact ⟨w0, w1, w2, w3, rfl⟩
 obtain ⟨i0, ei0⟩ := is_v ga0
 obtain rfl : w0 = (.int i0) := Option.some.inj ei0
 obtain ⟨i1, ei1⟩ := is_v ga1
 obtain rfl : w1 = (.int i1) := Option.some.inj ei1
 obtain ⟨i2, ei2⟩ := is_v ga2
 obtain rfl : w2 = (.int i2) := Option.some.inj ei2
 obtain ⟨i3, ei3⟩ := is_v ga3
 obtain rfl : w3 = (.int i3) := Option.some.inj ei3
 have hw := fun d (hd : d ∈ tables_1) => atoms_spec (ws := Jvm.Cond.code x code maxLocals ret :: tables_1) hat d (List.mem_cons_of_mem _ hd)
 have hfit : Fit s := fun {y c} hc i hi => by
  obtain ⟨ha, rfl⟩ := Array.getElem?_eq_some_iff.mp hc
  have q := List.all_eq_true.mp ((Array.all_eq_true_iff_forall_mem.mp hF) _ (Array.getElem_mem ha)) i (List.mem_range.mpr hi)
  simpa [Array.getElem?_eq_getElem hi] using q
 obtain ⟨hsets, hown0⟩ := atoms_of _ (rest_1_c_eq ▸ (show rest_1_c.before _ s = true from hrest))
 have n5 := not_v (Cond.before_iff.mp (hsets _ (List.mem_of_getElem? (i := 2) rfl)))
 obtain ⟨cs0, eCS⟩ := is_v (Cond.before_iff.mp (hsets _ (List.mem_of_getElem? (i := 1) rfl)))
 have S_CS : Sta s s.heap "java/lang/String" "COMPACT_STRINGS" "Z" (.int cs0) := Sta.start eCS (Or.inl (hsets _ (List.mem_of_getElem? (i := 0) rfl)))
 have c_CS : ¬ (cs0 = (0 : Int32)) := gotF (Cond.eq_ints eCS (Term.int_eval (0))) n5
 obtain ⟨fm, eFM, rFM⟩ := isR_v (Cond.before_iff.mp (hsets _ (List.mem_of_getElem? (i := 8) rfl)))
 have S_FM : Sta s s.heap "jdk/internal/util/Preconditions" "SIOOBE_FORMATTER" "Ljava/util/function/BiFunction;" fm := Sta.start eFM (Or.inl (hsets _ (List.mem_of_getElem? (i := 7) rfl)))
 obtain ⟨cin, eIN⟩ := exa_v (Cond.before_iff.mp (hsets _ (List.mem_of_getElem? (i := 11) rfl)))
 have S_IN : Sta s s.heap "java/lang/CharacterDataLatin1" "instance" "Ljava/lang/CharacterDataLatin1;" (.ref cin) := Sta.start eIN (Or.inl (hsets _ (List.mem_of_getElem? (i := 10) rfl)))
 have E_IN := Exa.start eIN (Cond.before_iff.mp (hsets _ (List.mem_of_getElem? (i := 11) rfl)))
 obtain ⟨ta, eTA⟩ := arr_v (Cond.before_iff.mp (hsets _ (List.mem_of_getElem? (i := 14) rfl)))
 have S_A : Sta s s.heap "java/lang/CharacterDataLatin1" "A" "[I" (.ref ta) := Sta.start eTA (Or.inl (hsets _ (List.mem_of_getElem? (i := 13) rfl)))
 obtain ⟨kA, V_A⟩ := own_arvT hfit eTA (Cond.before_iff.mp (hsets _ (List.mem_of_getElem? (i := 14) rfl))) (Cond.before_iff.mp (hsets _ (List.mem_of_getElem? (i := 16) rfl))) (fun j hj => Cond.before_iff.mp (hsets _ (List.mem_of_getElem? (own_jd j hj))))
 have wStr : ∀ d ∈ Bundle.stringAtoms, d.before _ s = true := fun d hd => hw d ((by decide +kernel : ∀ d ∈ Bundle.stringAtoms, d ∈ tables_1) d hd)
 have hEW : EW s _ EL1 := EW.cons (tw hw 126 rfl) (by decide) (EW.cons (tw hw 0 rfl) (by decide) (EW.cons (tw hw 184 rfl) (by decide) EW.nil))
 have hCH : CHv s EL1 s.vm s.heap := CHv.start hEW (fun p hp => hcalls.1 p hp) (hsets _ (List.mem_of_getElem? (i := 2) rfl)) (wStr _ (by simp [Bundle.stringAtoms])) (wStr _ (by simp [Bundle.stringAtoms, Bundle.sN]))
 obtain ⟨n, o, h1, h2, h3, _, L, rfl, ⟨rfl, N⟩, hq⟩ := rm0 l s _ hw tables_1 i0 i1 i2 i3 cs0 fm cin ta kA s.heap s.heap.size (Old.start s) S_CS c_CS S_FM rFM S_IN E_IN S_A V_A p e ha hc hk s m _ below hf ((Spec.applies_iff_loose hf).mp happ).1 ⟨rfl, State.Warmed39.refl s, rfl, hCH⟩ trivial
 obtain ⟨q1, q2, q3, q4⟩ := hq
 refine ⟨n, _, h1, h2, h3, hpost _ _ _ _ _ _ ⟨Cond.after_iff.mpr rfl, Cond.after_iff.mpr (eq_i res_at (Term.int_eval (1)) rfl), trivial⟩ ⟨q1, q2, q3, (q4.sift fun y hy => Or.inr (N y hy)).mono (by decide) (by decide)⟩⟩
theorem main_1_1 : Claimed_1_1 := comes_1 fun _ _ _ _ _ _ h hF => ⟨h.1, hF⟩
theorem main_1_2 : Claimed_1_2 := comes_1 fun _ _ _ _ _ _ h hF => ⟨h.2.1, hF⟩
end Jvm.Pilot.@@N@@
namespace Jvm.Pilot.@@N@@
open Jvm Jvm.ClassFile Sem Op Lib Jvm.Free Jvm.Stand Jvm.Pilot.@@N@@.Jvm.D
/-! MADE BY PROGRAM (witnessworld.py) out of the Statement's table words and the real class files: 25 classes; the members and pool entries that the words name. The judged class is class 1, her method 3. -/
namespace start1
open Jvm.ClassFile
def u (s : String) : CpInfo := .utf8 (stringToUtf16 s)
/-- a pool by its gaps: so many unusable entries, then the entry; so many at the end -/
def gap : Nat → List CpInfo → List CpInfo
  | 0, r => r
  | n + 1, r => .unusable :: gap n r
def poolList (es : List (Nat × CpInfo)) (last : Nat) : List CpInfo := es.foldr (fun e r => gap e.1 (e.2 :: r)) (gap last [])
def pool (es : List (Nat × CpInfo)) (last : Nat) : Array CpInfo := ⟨poolList es last⟩
def fileOf (pool : Array CpInfo) (this : Nat) (attrs : Array Attribute := #[]) (ms : Array MethodInfo := #[]) (fl : Nat := 33) (sup : Nat := 0) (ifs : Array Nat := #[]) (fds : Array FieldInfo := #[]) : ClassFile where
  minorVersion := 0
  majorVersion := 65
  constantPool := pool
  accessFlags := fl
  thisClass := this
  superClass := sup
  interfaces := ifs
  fields := fds
  methods := ms
  attributes := attrs
def plain (name : String) (sup : Option ClassId) : Class where
  name := name
  kind := .ordinary
  loader := none
  accessFlags := 33
  super := sup
  interfaces := #[]
  cf := none
  fields := #[]
  methods := #[]
  instanceTypes := #[]
  staticTypes := #[]
  resolved := #[]
  callSites := []
  init := .initialized
  statics := none
  mirror := none

def pool0 : Array CpInfo := pool [(5, u "<init>"), (0, u "()V"), (1, .class_ 10), (1, u "java/lang/Object")] 113

def k0c0 : Code := { maxStack := 0, maxLocals := 1, code := object_method_1_code, exceptionTable := #[], attributes := #[] }
def k0m0 : Method := { name := "<init>", desc := "()V", sig := { parameters := [], returnType := none }, accessFlags := 1, code := some k0c0 }
/-- java/lang/Object -/
def k0 : Class := { plain "java/lang/Object" none with
  accessFlags := 33
  interfaces := #[]
  cf := some (fileOf pool0 8 #[] #[{ accessFlags := 1, nameIndex := 5, descriptorIndex := 6, attributes := #[] }] 33 0 #[] #[])
  fields := #[]
  methods := #[k0m0]
  instanceTypes := #[]
  staticTypes := #[]
  resolved := Array.replicate 124 none
  statics := none }

def pool1 : Array CpInfo := pool [(2, .class_ 4), (1, u "java/lang/Object"), (0, u "<init>"), (0, u "()V"), (0, .string 8), (0, u "application/x-www-form-urlencoded"), (0, .integer 2147483647), (0, .methodref 11 12), (0, .class_ 13), (0, .nameAndType 14 15), (0, u "java/lang/String"), (0, u "charAt"), (0, u "(I)C"), (0, .methodref 17 18), (0, .class_ 19), (0, .nameAndType 20 21), (0, u "com/example/brisk_hub/briskhub/http/FormIsFormPinLaw"), (0, u "upper"), (0, u "(C)C"), (0, .methodref 23 24), (0, .class_ 25), (0, .nameAndType 26 27), (0, u "com/example/brisk_hub/briskhub/http/Form"), (0, u "isForm"), (0, u "(Ljava/lang/String;)Z"), (0, .methodref 11 29), (0, .nameAndType 5 30), (0, u "([C)V"), (0, .methodref 17 32), (0, .nameAndType 33 34), (0, u "ws"), (0, u "(C)Z"), (3, u "law"), (0, u "(IIII)Z")] 4

def k1m0 : Method := { name := "<init>", desc := "()V", sig := { parameters := [], returnType := none }, accessFlags := 1, code := none }
def k1c1 : Code := { maxStack := 2, maxLocals := 1, code := method_2_code, exceptionTable := #[], attributes := #[] }
def k1m1 : Method := { name := "ws", desc := "(C)Z", sig := { parameters := [.char], returnType := some .boolean }, accessFlags := 10, code := some k1c1 }
def k1c2 : Code := { maxStack := 2, maxLocals := 1, code := method_3_code, exceptionTable := #[], attributes := #[] }
def k1m2 : Method := { name := "upper", desc := "(C)C", sig := { parameters := [.char], returnType := some .char }, accessFlags := 10, code := some k1c2 }
def k1c3 : Code := { maxStack := 4, maxLocals := 18, code := code, exceptionTable := #[], attributes := #[] }
def k1m3 : Method := { name := "law", desc := "(IIII)Z", sig := { parameters := [.int, .int, .int, .int], returnType := some .boolean }, accessFlags := 9, code := some k1c3 }
/-- com/example/brisk_hub/briskhub/http/FormIsFormPinLaw -/
def k1 : Class := { plain "com/example/brisk_hub/briskhub/http/FormIsFormPinLaw" (some 0) with
  accessFlags := 49
  interfaces := #[]
  cf := some (fileOf pool1 17 #[] #[{ accessFlags := 1, nameIndex := 5, descriptorIndex := 6, attributes := #[] }, { accessFlags := 10, nameIndex := 33, descriptorIndex := 34, attributes := #[] }, { accessFlags := 10, nameIndex := 20, descriptorIndex := 21, attributes := #[] }, { accessFlags := 9, nameIndex := 38, descriptorIndex := 39, attributes := #[] }] 49 2 #[] #[])
  fields := #[]
  methods := #[k1m0, k1m1, k1m2, k1m3]
  instanceTypes := #[]
  staticTypes := #[]
  resolved := Array.replicate 44 none
  statics := none }

def pool2 : Array CpInfo := pool [(1, .class_ 2), (0, u "java/io/Serializable"), (0, .class_ 4), (0, u "java/lang/Object")] 2

/-- java/io/Serializable -/
def k2 : Class := { plain "java/io/Serializable" (some 0) with
  accessFlags := 1537
  interfaces := #[]
  cf := some (fileOf pool2 1 #[] #[] 1537 3 #[] #[])
  fields := #[]
  methods := #[]
  instanceTypes := #[]
  staticTypes := #[]
  resolved := Array.replicate 7 none
  statics := none }

def pool3 : Array CpInfo := pool [(1, .class_ 2), (0, u "java/lang/Comparable"), (0, .class_ 4), (0, u "java/lang/Object")] 7

/-- java/lang/Comparable -/
def k3 : Class := { plain "java/lang/Comparable" (some 0) with
  accessFlags := 1537
  interfaces := #[]
  cf := some (fileOf pool3 1 #[] #[] 1537 3 #[] #[])
  fields := #[]
  methods := #[]
  instanceTypes := #[]
  staticTypes := #[]
  resolved := Array.replicate 12 none
  statics := none }

def pool4 : Array CpInfo := pool [(2, .class_ 4), (1, u "java/lang/CharSequence"), (42, .class_ 48), (0, u "java/lang/CharSequence$1CodePointIterator"), (10, .class_ 60), (0, u "java/lang/CharSequence$1CharIterator"), (5, .class_ 67), (0, u "java/lang/Object")] 63

/-- java/lang/CharSequence -/
def k4 : Class := { plain "java/lang/CharSequence" (some 0) with
  accessFlags := 1537
  interfaces := #[]
  cf := some (fileOf pool4 2 #[.nestMembers #[47, 59]] #[] 1537 66 #[] #[])
  fields := #[]
  methods := #[]
  instanceTypes := #[]
  staticTypes := #[]
  resolved := Array.replicate 131 none
  statics := none }

def pool5 : Array CpInfo := pool [(1, .class_ 2), (0, u "java/lang/constant/Constable"), (0, .class_ 4), (0, u "java/lang/Object")] 6

/-- java/lang/constant/Constable -/
def k5 : Class := { plain "java/lang/constant/Constable" (some 0) with
  accessFlags := 1537
  interfaces := #[]
  cf := some (fileOf pool5 1 #[] #[] 1537 3 #[] #[])
  fields := #[]
  methods := #[]
  instanceTypes := #[]
  staticTypes := #[]
  resolved := Array.replicate 11 none
  statics := none }

def pool6 : Array CpInfo := pool [(1, .class_ 2), (0, u "java/lang/constant/ConstantDesc"), (0, .class_ 4), (0, u "java/lang/Object")] 32

/-- java/lang/constant/ConstantDesc -/
def k6 : Class := { plain "java/lang/constant/ConstantDesc" (some 0) with
  accessFlags := 1537
  interfaces := #[]
  cf := some (fileOf pool6 1 #[] #[] 1537 3 #[] #[])
  fields := #[]
  methods := #[]
  instanceTypes := #[]
  staticTypes := #[]
  resolved := Array.replicate 37 none
  statics := none }

def pool7 : Array CpInfo := pool [(1, .methodref 2 3), (0, .class_ 4), (0, .nameAndType 5 6), (0, u "java/lang/Object"), (0, u "<init>"), (0, u "()V"), (2, .fieldref 10 11), (0, .class_ 12), (0, .nameAndType 13 14), (0, u "java/lang/String"), (0, u "value"), (0, u "[B"), (0, .fieldref 10 16), (0, .nameAndType 17 18), (0, u "coder"), (0, u "B"), (2, u "hash"), (0, u "I"), (2, u "hashIsZero"), (0, u "Z"), (0, .methodref 10 28), (0, .nameAndType 5 29), (0, u "([CIILjava/lang/Void;)V"), (8, .fieldref 10 39), (0, .nameAndType 40 26), (0, u "COMPACT_STRINGS"), (1, .class_ 44), (1, u "java/lang/StringUTF16"), (0, u "compress"), (1, .methodref 42 48), (0, .nameAndType 49 50), (0, u "coderFromArrayLen"), (0, u "([BI)B"), (56, .class_ 109), (1, u "java/lang/StringLatin1"), (32, u "()Z"), (34, .methodref 42 178), (0, .nameAndType 45 179), (0, u "([CII)[B"), (31, u "([BB)V"), (122, u "()I"), (0, .methodref 10 336), (0, .nameAndType 17 337), (0, u "()B"), (25, u "([BI)C"), (27, u "(II)V"), (35, u "(I)C"), (36, u "()Ljava/lang/String;"), (27, .methodref 10 493), (0, .nameAndType 494 142), (0, u "isLatin1"), (0, .methodref 107 496), (0, .nameAndType 497 363), (0, u "charAt"), (3, u "checkIndex"), (3, .methodref 10 506), (0, .nameAndType 507 334), (0, u "length"), (5, u "checkFromToIndex"), (7, .methodref 10 522), (0, .nameAndType 523 524), (0, u "checkBoundsBeginEnd"), (0, u "(III)V"), (50, .class_ 576), (0, u "java/lang/CharSequence"), (5, .methodref 10 583), (0, .nameAndType 584 585), (0, u "regionMatches"), (0, u "(ZILjava/lang/String;II)Z"), (13, u "CASE_INSENSITIVE_ORDER"), (0, u "Ljava/util/Comparator;"), (12, .methodref 107 614), (0, .nameAndType 615 616), (0, u "regionMatchesCI"), (0, u "([BI[BII)Z"), (16, .methodref 10 634), (0, .nameAndType 635 636), (0, u "indexOf"), (0, u "(II)I"), (0, .methodref 107 638), (0, .nameAndType 635 639), (0, u "([BIII)I"), (43, u "substring"), (0, u "(II)Ljava/lang/String;"), (0, .methodref 107 686), (0, .nameAndType 687 688), (0, u "newString"), (0, u "([BII)Ljava/lang/String;"), (76, u "(I)I"), (96, u "([B)Ljava/lang/String;"), (1, .methodref 107 865), (0, .nameAndType 866 862), (0, u "strip"), (143, u "([C)V"), (42, .fieldref 1054 1055), (0, .class_ 1056), (0, .nameAndType 1057 1058), (0, u "jdk/internal/util/Preconditions"), (0, u "SIOOBE_FORMATTER"), (0, u "Ljava/util/function/BiFunction;"), (0, .methodref 1054 1060), (0, .nameAndType 501 1061), (0, u "(IILjava/util/function/BiFunction;)I"), (0, .methodref 1054 1063), (0, .nameAndType 513 1064), (0, u "(IIILjava/util/function/BiFunction;)I"), (36, u "serialPersistentFields"), (0, u "[Ljava/io/ObjectStreamField;"), (0, .class_ 1104), (0, u "java/lang/String$CaseInsensitiveComparator"), (1, .class_ 1107), (0, u "java/io/Serializable"), (0, .class_ 1109), (0, u "java/lang/Comparable"), (0, .class_ 1111), (0, u "java/lang/constant/Constable"), (0, .class_ 1113), (0, u "java/lang/constant/ConstantDesc"), (2, u "serialVersionUID"), (0, u "J"), (3, u "REPL"), (0, u "C"), (2, u "LATIN1"), (1, u "UTF16"), (128, u "equalsIgnoreCase"), (0, u "(Ljava/lang/String;)Z")] 193

def k7m0 : Method := { name := "<init>", desc := "()V", sig := { parameters := [], returnType := none }, accessFlags := 1, code := none }
def k7c1 : Code := { maxStack := 5, maxLocals := 2, code := jdk_42_method_3_code, exceptionTable := #[], attributes := #[] }
def k7m1 : Method := { name := "<init>", desc := "([C)V", sig := { parameters := [(.array .char)], returnType := none }, accessFlags := 1, code := some k7c1 }
def k7c2 : Code := { maxStack := 2, maxLocals := 1, code := jdk_42_method_54_code, exceptionTable := #[], attributes := #[] }
def k7m2 : Method := { name := "length", desc := "()I", sig := { parameters := [], returnType := some .int }, accessFlags := 1, code := some k7c2 }
def k7c3 : Code := { maxStack := 2, maxLocals := 2, code := jdk_42_method_56_code, exceptionTable := #[], attributes := #[] }
def k7m3 : Method := { name := "charAt", desc := "(I)C", sig := { parameters := [.int], returnType := some .char }, accessFlags := 1, code := some k7c3 }
def k7c4 : Code := { maxStack := 6, maxLocals := 2, code := jdk_42_method_70_code, exceptionTable := #[], attributes := #[] }
def k7m4 : Method := { name := "equalsIgnoreCase", desc := "(Ljava/lang/String;)Z", sig := { parameters := [(.object "java/lang/String")], returnType := some .boolean }, accessFlags := 1, code := some k7c4 }
def k7c5 : Code := { maxStack := 6, maxLocals := 9, code := jdk_42_method_74_code, exceptionTable := #[], attributes := #[] }
def k7m5 : Method := { name := "regionMatches", desc := "(ZILjava/lang/String;II)Z", sig := { parameters := [.boolean, .int, (.object "java/lang/String"), .int, .int], returnType := some .boolean }, accessFlags := 1, code := some k7c5 }
def k7c6 : Code := { maxStack := 3, maxLocals := 2, code := jdk_42_method_79_code, exceptionTable := #[], attributes := #[] }
def k7m6 : Method := { name := "indexOf", desc := "(I)I", sig := { parameters := [.int], returnType := some .int }, accessFlags := 1, code := some k7c6 }
def k7c7 : Code := { maxStack := 4, maxLocals := 3, code := jdk_42_method_80_code, exceptionTable := #[], attributes := #[] }
def k7m7 : Method := { name := "indexOf", desc := "(II)I", sig := { parameters := [.int, .int], returnType := some .int }, accessFlags := 1, code := some k7c7 }
def k7c8 : Code := { maxStack := 3, maxLocals := 5, code := jdk_42_method_92_code, exceptionTable := #[], attributes := #[] }
def k7m8 : Method := { name := "substring", desc := "(II)Ljava/lang/String;", sig := { parameters := [.int, .int], returnType := some (.object "java/lang/String") }, accessFlags := 1, code := some k7c8 }
def k7c9 : Code := { maxStack := 1, maxLocals := 2, code := jdk_42_method_114_code, exceptionTable := #[], attributes := #[] }
def k7m9 : Method := { name := "strip", desc := "()Ljava/lang/String;", sig := { parameters := [], returnType := some (.object "java/lang/String") }, accessFlags := 1, code := some k7c9 }
def k7c10 : Code := { maxStack := 4, maxLocals := 6, code := jdk_42_method_149_code, exceptionTable := #[], attributes := #[] }
def k7m10 : Method := { name := "<init>", desc := "([CIILjava/lang/Void;)V", sig := { parameters := [(.array .char), .int, .int, (.object "java/lang/Void")], returnType := none }, accessFlags := 2, code := some k7c10 }
def k7c11 : Code := { maxStack := 2, maxLocals := 3, code := jdk_42_method_151_code, exceptionTable := #[], attributes := #[] }
def k7m11 : Method := { name := "<init>", desc := "([BB)V", sig := { parameters := [(.array .byte), .byte], returnType := none }, accessFlags := 0, code := some k7c11 }
def k7c12 : Code := { maxStack := 1, maxLocals := 1, code := jdk_42_method_152_code, exceptionTable := #[], attributes := #[] }
def k7m12 : Method := { name := "coder", desc := "()B", sig := { parameters := [], returnType := some .byte }, accessFlags := 0, code := some k7c12 }
def k7c13 : Code := { maxStack := 1, maxLocals := 1, code := jdk_42_method_154_code, exceptionTable := #[], attributes := #[] }
def k7m13 : Method := { name := "isLatin1", desc := "()Z", sig := { parameters := [], returnType := some .boolean }, accessFlags := 0, code := some k7c13 }
def k7c14 : Code := { maxStack := 3, maxLocals := 2, code := jdk_42_method_155_code, exceptionTable := #[], attributes := #[] }
def k7m14 : Method := { name := "checkIndex", desc := "(II)V", sig := { parameters := [.int, .int], returnType := none }, accessFlags := 8, code := some k7c14 }
def k7c15 : Code := { maxStack := 4, maxLocals := 3, code := jdk_42_method_158_code, exceptionTable := #[], attributes := #[] }
def k7m15 : Method := { name := "checkBoundsBeginEnd", desc := "(III)V", sig := { parameters := [.int, .int, .int], returnType := none }, accessFlags := 8, code := some k7c15 }
/-- java/lang/String -/
def k7 : Class := { plain "java/lang/String" (some 0) with
  accessFlags := 49
  interfaces := #[2, 3, 4, 5, 6]
  cf := some (fileOf pool7 10 #[.nestMembers #[1103]] #[{ accessFlags := 1, nameIndex := 5, descriptorIndex := 6, attributes := #[] }, { accessFlags := 1, nameIndex := 5, descriptorIndex := 1010, attributes := #[] }, { accessFlags := 1, nameIndex := 507, descriptorIndex := 334, attributes := #[] }, { accessFlags := 1, nameIndex := 497, descriptorIndex := 427, attributes := #[] }, { accessFlags := 1, nameIndex := 1256, descriptorIndex := 1257, attributes := #[] }, { accessFlags := 1, nameIndex := 584, descriptorIndex := 585, attributes := #[] }, { accessFlags := 1, nameIndex := 635, descriptorIndex := 765, attributes := #[] }, { accessFlags := 1, nameIndex := 635, descriptorIndex := 636, attributes := #[] }, { accessFlags := 1, nameIndex := 683, descriptorIndex := 684, attributes := #[] }, { accessFlags := 1, nameIndex := 866, descriptorIndex := 464, attributes := #[] }, { accessFlags := 2, nameIndex := 5, descriptorIndex := 29, attributes := #[] }, { accessFlags := 0, nameIndex := 5, descriptorIndex := 211, attributes := #[] }, { accessFlags := 0, nameIndex := 17, descriptorIndex := 337, attributes := #[] }, { accessFlags := 0, nameIndex := 494, descriptorIndex := 142, attributes := #[] }, { accessFlags := 8, nameIndex := 501, descriptorIndex := 391, attributes := #[] }, { accessFlags := 8, nameIndex := 523, descriptorIndex := 524, attributes := #[] }] 49 2 #[1106, 1108, 575, 1110, 1112] #[{ accessFlags := 18, nameIndex := 13, descriptorIndex := 14, attributes := #[] }, { accessFlags := 18, nameIndex := 17, descriptorIndex := 18, attributes := #[] }, { accessFlags := 2, nameIndex := 21, descriptorIndex := 22, attributes := #[] }, { accessFlags := 2, nameIndex := 25, descriptorIndex := 26, attributes := #[] }, { accessFlags := 26, nameIndex := 1116, descriptorIndex := 1117, attributes := #[] }, { accessFlags := 24, nameIndex := 40, descriptorIndex := 26, attributes := #[] }, { accessFlags := 26, nameIndex := 1101, descriptorIndex := 1102, attributes := #[] }, { accessFlags := 26, nameIndex := 1121, descriptorIndex := 1122, attributes := #[] }, { accessFlags := 25, nameIndex := 599, descriptorIndex := 600, attributes := #[] }, { accessFlags := 24, nameIndex := 1125, descriptorIndex := 18, attributes := #[] }, { accessFlags := 24, nameIndex := 1127, descriptorIndex := 18, attributes := #[] }])
  fields := #[{ name := "value", type := (.array .byte), accessFlags := 18, slot := 0, constantValue := 0 }, { name := "coder", type := .byte, accessFlags := 18, slot := 1, constantValue := 0 }, { name := "hash", type := .int, accessFlags := 2, slot := 2, constantValue := 0 }, { name := "hashIsZero", type := .boolean, accessFlags := 2, slot := 3, constantValue := 0 }, { name := "serialVersionUID", type := .long, accessFlags := 26, slot := 0, constantValue := 0 }, { name := "COMPACT_STRINGS", type := .boolean, accessFlags := 24, slot := 1, constantValue := 0 }, { name := "serialPersistentFields", type := (.array (.object "java/io/ObjectStreamField")), accessFlags := 26, slot := 2, constantValue := 0 }, { name := "REPL", type := .char, accessFlags := 26, slot := 3, constantValue := 0 }, { name := "CASE_INSENSITIVE_ORDER", type := (.object "java/util/Comparator"), accessFlags := 25, slot := 4, constantValue := 0 }, { name := "LATIN1", type := .byte, accessFlags := 24, slot := 5, constantValue := 0 }, { name := "UTF16", type := .byte, accessFlags := 24, slot := 6, constantValue := 0 }]
  methods := #[k7m0, k7m1, k7m2, k7m3, k7m4, k7m5, k7m6, k7m7, k7m8, k7m9, k7m10, k7m11, k7m12, k7m13, k7m14, k7m15]
  instanceTypes := #[(.array .byte), .byte, .int, .boolean]
  staticTypes := #[.long, .boolean, (.array (.object "java/io/ObjectStreamField")), .char, (.object "java/util/Comparator"), .byte, .byte]
  resolved := Array.replicate 1451 none
  statics := some 0 }

def pool8 : Array CpInfo := pool [(1, .class_ 2), (0, u "java/lang/String"), (1, .class_ 6), (1, u "java/lang/Object"), (0, u "<init>"), (0, u "()V"), (0, .methodref 1 10), (0, .nameAndType 11 12), (0, u "checkIndex"), (0, u "(II)V"), (1, .class_ 16), (1, u "java/lang/StringLatin1"), (21, .methodref 39 40), (0, .class_ 41), (0, .nameAndType 42 43), (0, u "java/lang/Math"), (0, u "min"), (0, u "(II)I"), (6, .methodref 14 51), (0, .nameAndType 52 53), (0, u "getChar"), (0, u "([BI)C"), (3, u "([B)I"), (8, .fieldref 67 68), (0, .class_ 69), (0, .nameAndType 70 71), (0, u "java/lang/CharacterDataLatin1"), (0, u "instance"), (0, u "Ljava/lang/CharacterDataLatin1;"), (16, .methodref 14 89), (0, .nameAndType 90 91), (0, u "canEncode"), (0, u "(I)Z"), (0, .methodref 39 93), (0, .nameAndType 94 43), (0, u "max"), (0, .methodref 14 96), (0, .nameAndType 97 98), (0, u "indexOfChar"), (0, u "([BIII)I"), (2, u "indexOf"), (10, .methodref 1 113), (0, .nameAndType 7 114), (0, u "([BB)V"), (6, u "$assertionsDisabled"), (0, u "Z"), (8, .class_ 133), (1, u "java/util/Arrays"), (17, .string 152), (0, u ""), (0, .methodref 67 154), (0, .nameAndType 155 156), (0, u "equalsIgnoreCase"), (0, u "(BB)Z"), (38, .nameAndType 196 197), (0, u "newString"), (0, u "([BII)Ljava/lang/String;"), (12, .methodref 14 195), (0, .methodref 67 212), (0, .nameAndType 213 91), (0, u "isWhitespace"), (0, .methodref 14 215), (0, .nameAndType 216 57), (0, u "indexOfNonWhitespace"), (0, .methodref 14 218), (0, .nameAndType 219 57), (0, u "lastIndexOfNonWhitespace"), (1, .class_ 223), (1, u "java/lang/StringLatin1$LinesSpliterator"), (8, .methodref 131 233), (0, .nameAndType 234 235), (0, u "copyOfRange"), (0, u "([BII)[B"), (16, u "charAt"), (87, u "regionMatchesCI"), (0, u "([BI[BII)Z"), (25, u "([B)Ljava/lang/String;"), (3, u "strip"), (18, .class_ 391), (0, u "java/lang/StringLatin1$CharsSpliterator")] 3

def k8m0 : Method := { name := "<init>", desc := "()V", sig := { parameters := [], returnType := none }, accessFlags := 0, code := none }
def k8c1 : Code := { maxStack := 2, maxLocals := 2, code := jdk_43_method_2_code, exceptionTable := #[], attributes := #[] }
def k8m1 : Method := { name := "charAt", desc := "([BI)C", sig := { parameters := [(.array .byte), .int], returnType := some .char }, accessFlags := 9, code := some k8c1 }
def k8c2 : Code := { maxStack := 2, maxLocals := 1, code := jdk_43_method_4_code, exceptionTable := #[], attributes := #[] }
def k8m2 : Method := { name := "canEncode", desc := "(I)Z", sig := { parameters := [.int], returnType := some .boolean }, accessFlags := 9, code := some k8c2 }
def k8c3 : Code := { maxStack := 4, maxLocals := 4, code := jdk_43_method_22_code, exceptionTable := #[], attributes := #[] }
def k8m3 : Method := { name := "indexOf", desc := "([BIII)I", sig := { parameters := [(.array .byte), .int, .int, .int], returnType := some .int }, accessFlags := 9, code := some k8c3 }
def k8c4 : Code := { maxStack := 2, maxLocals := 6, code := jdk_43_method_23_code, exceptionTable := #[], attributes := #[] }
def k8m4 : Method := { name := "indexOfChar", desc := "([BIII)I", sig := { parameters := [(.array .byte), .int, .int, .int], returnType := some .int }, accessFlags := 10, code := some k8c4 }
def k8c5 : Code := { maxStack := 2, maxLocals := 8, code := jdk_43_method_30_code, exceptionTable := #[], attributes := #[] }
def k8m5 : Method := { name := "regionMatchesCI", desc := "([BI[BII)Z", sig := { parameters := [(.array .byte), .int, (.array .byte), .int, .int], returnType := some .boolean }, accessFlags := 9, code := some k8c5 }
def k8c6 : Code := { maxStack := 2, maxLocals := 4, code := jdk_43_method_37_code, exceptionTable := #[], attributes := #[] }
def k8m6 : Method := { name := "indexOfNonWhitespace", desc := "([B)I", sig := { parameters := [(.array .byte)], returnType := some .int }, accessFlags := 9, code := some k8c6 }
def k8c7 : Code := { maxStack := 3, maxLocals := 4, code := jdk_43_method_38_code, exceptionTable := #[], attributes := #[] }
def k8m7 : Method := { name := "lastIndexOfNonWhitespace", desc := "([B)I", sig := { parameters := [(.array .byte)], returnType := some .int }, accessFlags := 9, code := some k8c7 }
def k8c8 : Code := { maxStack := 4, maxLocals := 4, code := jdk_43_method_39_code, exceptionTable := #[], attributes := #[] }
def k8m8 : Method := { name := "strip", desc := "([B)Ljava/lang/String;", sig := { parameters := [(.array .byte)], returnType := some (.object "java/lang/String") }, accessFlags := 9, code := some k8c8 }
def k8c9 : Code := { maxStack := 2, maxLocals := 2, code := jdk_43_method_44_code, exceptionTable := #[], attributes := #[] }
def k8m9 : Method := { name := "getChar", desc := "([BI)C", sig := { parameters := [(.array .byte), .int], returnType := some .char }, accessFlags := 9, code := some k8c9 }
def k8c10 : Code := { maxStack := 6, maxLocals := 3, code := jdk_43_method_47_code, exceptionTable := #[], attributes := #[] }
def k8m10 : Method := { name := "newString", desc := "([BII)Ljava/lang/String;", sig := { parameters := [(.array .byte), .int, .int], returnType := some (.object "java/lang/String") }, accessFlags := 9, code := some k8c10 }
/-- java/lang/StringLatin1 -/
def k8 : Class := { plain "java/lang/StringLatin1" (some 0) with
  accessFlags := 48
  interfaces := #[]
  cf := some (fileOf pool8 14 #[.nestMembers #[390, 221]] #[{ accessFlags := 0, nameIndex := 7, descriptorIndex := 8, attributes := #[] }, { accessFlags := 9, nameIndex := 252, descriptorIndex := 53, attributes := #[] }, { accessFlags := 9, nameIndex := 90, descriptorIndex := 91, attributes := #[] }, { accessFlags := 9, nameIndex := 101, descriptorIndex := 98, attributes := #[] }, { accessFlags := 10, nameIndex := 97, descriptorIndex := 98, attributes := #[] }, { accessFlags := 9, nameIndex := 340, descriptorIndex := 341, attributes := #[] }, { accessFlags := 9, nameIndex := 216, descriptorIndex := 57, attributes := #[] }, { accessFlags := 9, nameIndex := 219, descriptorIndex := 57, attributes := #[] }, { accessFlags := 9, nameIndex := 371, descriptorIndex := 367, attributes := #[] }, { accessFlags := 9, nameIndex := 52, descriptorIndex := 53, attributes := #[] }, { accessFlags := 9, nameIndex := 196, descriptorIndex := 197, attributes := #[] }] 48 4 #[] #[{ accessFlags := 4120, nameIndex := 121, descriptorIndex := 122, attributes := #[] }])
  fields := #[{ name := "$assertionsDisabled", type := .boolean, accessFlags := 4120, slot := 0, constantValue := 0 }]
  methods := #[k8m0, k8m1, k8m2, k8m3, k8m4, k8m5, k8m6, k8m7, k8m8, k8m9, k8m10]
  instanceTypes := #[]
  staticTypes := #[.boolean]
  resolved := Array.replicate 395 none
  statics := none }

def pool9 : Array CpInfo := pool [(2, .class_ 4), (1, u "java/lang/Object"), (0, u "<init>"), (0, u "()V"), (17, .class_ 26), (1, u "jdk/internal/util/Preconditions"), (6, u "checkIndex"), (13, u "checkFromToIndex"), (7, .class_ 56), (0, u "jdk/internal/util/Preconditions$4"), (57, .class_ 115), (0, u "jdk/internal/util/Preconditions$1"), (7, u "SIOOBE_FORMATTER"), (0, u "Ljava/util/function/BiFunction;"), (0, .class_ 126), (0, u "jdk/internal/util/Preconditions$2"), (3, u "AIOOBE_FORMATTER"), (0, .class_ 132), (0, u "jdk/internal/util/Preconditions$3"), (3, u "IOOBE_FORMATTER"), (41, u "(IILjava/util/function/BiFunction;)I"), (4, u "(IIILjava/util/function/BiFunction;)I")] 10

def k9m0 : Method := { name := "<init>", desc := "()V", sig := { parameters := [], returnType := none }, accessFlags := 1, code := none }
def k9c1 : Code := { maxStack := 3, maxLocals := 3, code := jdk_41_method_11_code, exceptionTable := #[], attributes := #[] }
def k9m1 : Method := { name := "checkIndex", desc := "(IILjava/util/function/BiFunction;)I", sig := { parameters := [.int, .int, (.object "java/util/function/BiFunction")], returnType := some .int }, accessFlags := 9, code := some k9c1 }
def k9c2 : Code := { maxStack := 4, maxLocals := 4, code := jdk_41_method_12_code, exceptionTable := #[], attributes := #[] }
def k9m2 : Method := { name := "checkFromToIndex", desc := "(IIILjava/util/function/BiFunction;)I", sig := { parameters := [.int, .int, .int, (.object "java/util/function/BiFunction")], returnType := some .int }, accessFlags := 9, code := some k9c2 }
/-- jdk/internal/util/Preconditions -/
def k9 : Class := { plain "jdk/internal/util/Preconditions" (some 0) with
  accessFlags := 33
  interfaces := #[]
  cf := some (fileOf pool9 24 #[.nestMembers #[55, 131, 125, 114]] #[{ accessFlags := 1, nameIndex := 5, descriptorIndex := 6, attributes := #[] }, { accessFlags := 9, nameIndex := 33, descriptorIndex := 178, attributes := #[] }, { accessFlags := 9, nameIndex := 47, descriptorIndex := 183, attributes := #[] }] 33 2 #[] #[{ accessFlags := 25, nameIndex := 123, descriptorIndex := 124, attributes := #[] }, { accessFlags := 25, nameIndex := 130, descriptorIndex := 124, attributes := #[] }, { accessFlags := 25, nameIndex := 136, descriptorIndex := 124, attributes := #[] }])
  fields := #[{ name := "SIOOBE_FORMATTER", type := (.object "java/util/function/BiFunction"), accessFlags := 25, slot := 0, constantValue := 0 }, { name := "AIOOBE_FORMATTER", type := (.object "java/util/function/BiFunction"), accessFlags := 25, slot := 1, constantValue := 0 }, { name := "IOOBE_FORMATTER", type := (.object "java/util/function/BiFunction"), accessFlags := 25, slot := 2, constantValue := 0 }]
  methods := #[k9m0, k9m1, k9m2]
  instanceTypes := #[]
  staticTypes := #[(.object "java/util/function/BiFunction"), (.object "java/util/function/BiFunction"), (.object "java/util/function/BiFunction")]
  resolved := Array.replicate 194 none
  statics := some 1 }

def pool10 : Array CpInfo := pool [(6, .class_ 8), (1, u "java/lang/Object"), (0, u "<init>"), (0, u "()V"), (1, .class_ 14), (1, u "java/lang/StringUTF16"), (31, u "$assertionsDisabled"), (0, u "Z"), (13, u "HI_BYTE_SHIFT"), (0, u "I"), (2, u "LO_BYTE_SHIFT"), (49, .methodref 12 116), (0, .nameAndType 117 118), (0, u "compress"), (0, u "([CI[BII)I"), (3, u "([CII)[B"), (138, u "coderFromArrayLen"), (0, u "([BI)B"), (106, .class_ 371), (1, u "java/lang/StringUTF16$LinesSpliterator"), (58, u "MAX_LENGTH"), (196, .class_ 628), (0, u "java/lang/StringUTF16$CodePointsSpliterator"), (0, .class_ 630), (0, u "java/lang/StringUTF16$CharsSpliterator")] 4

def k10m0 : Method := { name := "<init>", desc := "()V", sig := { parameters := [], returnType := none }, accessFlags := 0, code := none }
def k10c1 : Code := { maxStack := 2, maxLocals := 2, code := jdk_52_method_15_code, exceptionTable := #[], attributes := #[] }
def k10m1 : Method := { name := "coderFromArrayLen", desc := "([BI)B", sig := { parameters := [(.array .byte), .int], returnType := some .byte }, accessFlags := 8, code := some k10c1 }
def k10c2 : Code := { maxStack := 5, maxLocals := 6, code := jdk_52_method_16_code, exceptionTable := #[], attributes := #[] }
def k10m2 : Method := { name := "compress", desc := "([CII)[B", sig := { parameters := [(.array .char), .int, .int], returnType := some (.array .byte) }, accessFlags := 9, code := some k10c2 }
def k10c3 : Code := { maxStack := 3, maxLocals := 7, code := jdk_52_method_21_code, exceptionTable := #[], attributes := #[] }
def k10m3 : Method := { name := "compress", desc := "([CI[BII)I", sig := { parameters := [(.array .char), .int, (.array .byte), .int, .int], returnType := some .int }, accessFlags := 9, code := some k10c3 }
/-- java/lang/StringUTF16 -/
def k10 : Class := { plain "java/lang/StringUTF16" (some 0) with
  accessFlags := 48
  interfaces := #[]
  cf := some (fileOf pool10 12 #[.nestMembers #[627, 629, 369]] #[{ accessFlags := 0, nameIndex := 9, descriptorIndex := 10, attributes := #[] }, { accessFlags := 8, nameIndex := 261, descriptorIndex := 262, attributes := #[] }, { accessFlags := 9, nameIndex := 117, descriptorIndex := 122, attributes := #[] }, { accessFlags := 9, nameIndex := 117, descriptorIndex := 118, attributes := #[] }] 48 6 #[] #[{ accessFlags := 26, nameIndex := 61, descriptorIndex := 62, attributes := #[] }, { accessFlags := 26, nameIndex := 65, descriptorIndex := 62, attributes := #[] }, { accessFlags := 24, nameIndex := 430, descriptorIndex := 62, attributes := #[] }, { accessFlags := 4120, nameIndex := 46, descriptorIndex := 47, attributes := #[] }])
  fields := #[{ name := "HI_BYTE_SHIFT", type := .int, accessFlags := 26, slot := 0, constantValue := 0 }, { name := "LO_BYTE_SHIFT", type := .int, accessFlags := 26, slot := 1, constantValue := 0 }, { name := "MAX_LENGTH", type := .int, accessFlags := 24, slot := 2, constantValue := 0 }, { name := "$assertionsDisabled", type := .boolean, accessFlags := 4120, slot := 3, constantValue := 0 }]
  methods := #[k10m0, k10m1, k10m2, k10m3]
  instanceTypes := #[]
  staticTypes := #[.int, .int, .int, .boolean]
  resolved := Array.replicate 635 none
  statics := none }

def pool11 : Array CpInfo := pool [(2, .class_ 4), (1, u "java/lang/Object"), (3, .class_ 10), (1, u "com/example/brisk_hub/briskhub/http/Form"), (0, u "fields"), (0, u "Ljava/util/Map;"), (0, .methodref 14 15), (0, .class_ 16), (0, .nameAndType 17 18), (0, u "java/lang/String"), (0, u "indexOf"), (0, u "(I)I"), (0, .methodref 14 20), (0, .nameAndType 21 22), (0, u "substring"), (0, u "(II)Ljava/lang/String;"), (0, .methodref 14 24), (0, .nameAndType 25 26), (0, u "strip"), (0, u "()Ljava/lang/String;"), (0, .string 28), (0, u "application/x-www-form-urlencoded"), (0, .methodref 14 30), (0, .nameAndType 31 32), (0, u "equalsIgnoreCase"), (0, u "(Ljava/lang/String;)Z"), (170, u "MEDIA_TYPE"), (0, u "Ljava/lang/String;"), (6, u "isForm")] 60

def k11c0 : Code := { maxStack := 3, maxLocals := 3, code := prog_5_method_2_code, exceptionTable := #[], attributes := #[] }
def k11m0 : Method := { name := "isForm", desc := "(Ljava/lang/String;)Z", sig := { parameters := [(.object "java/lang/String")], returnType := some .boolean }, accessFlags := 9, code := some k11c0 }
/-- com/example/brisk_hub/briskhub/http/Form -/
def k11 : Class := { plain "com/example/brisk_hub/briskhub/http/Form" (some 0) with
  accessFlags := 49
  interfaces := #[]
  cf := some (fileOf pool11 8 #[] #[{ accessFlags := 9, nameIndex := 211, descriptorIndex := 32, attributes := #[] }] 49 2 #[] #[{ accessFlags := 25, nameIndex := 203, descriptorIndex := 204, attributes := #[] }, { accessFlags := 18, nameIndex := 11, descriptorIndex := 12, attributes := #[] }])
  fields := #[{ name := "MEDIA_TYPE", type := (.object "java/lang/String"), accessFlags := 25, slot := 0, constantValue := 0 }, { name := "fields", type := (.object "java/util/Map"), accessFlags := 18, slot := 0, constantValue := 0 }]
  methods := #[k11m0]
  instanceTypes := #[(.object "java/util/Map")]
  staticTypes := #[(.object "java/lang/String")]
  resolved := Array.replicate 272 none
  statics := none }

def pool12 : Array CpInfo := pool [(1, .class_ 2), (0, u "java/lang/Math"), (1, .class_ 6), (1, u "java/lang/Object"), (0, u "<init>"), (0, u "()V"), (89, .class_ 100), (1, u "java/lang/Math$RandomNumberGeneratorHolder"), (71, u "negativeZeroFloatBits"), (0, u "J"), (2, u "negativeZeroDoubleBits"), (21, u "max"), (2, u "min"), (43, u "$assertionsDisabled"), (0, u "Z"), (88, u "(II)I"), (2, u "twoToTheDoubleScaleDown"), (0, u "D"), (4, u "twoToTheDoubleScaleUp"), (9, u "E"), (3, u "PI"), (2, u "TAU"), (2, u "DEGREES_TO_RADIANS"), (0, u "RADIANS_TO_DEGREES")] 94

def k12m0 : Method := { name := "<init>", desc := "()V", sig := { parameters := [], returnType := none }, accessFlags := 2, code := none }
def k12c1 : Code := { maxStack := 2, maxLocals := 2, code := jdk_29_method_65_code, exceptionTable := #[], attributes := #[] }
def k12m1 : Method := { name := "max", desc := "(II)I", sig := { parameters := [.int, .int], returnType := some .int }, accessFlags := 9, code := some k12c1 }
def k12c2 : Code := { maxStack := 2, maxLocals := 2, code := jdk_29_method_69_code, exceptionTable := #[], attributes := #[] }
def k12m2 : Method := { name := "min", desc := "(II)I", sig := { parameters := [.int, .int], returnType := some .int }, accessFlags := 9, code := some k12c2 }
/-- java/lang/Math -/
def k12 : Class := { plain "java/lang/Math" (some 0) with
  accessFlags := 49
  interfaces := #[]
  cf := some (fileOf pool12 1 #[.nestMembers #[98]] #[{ accessFlags := 2, nameIndex := 7, descriptorIndex := 8, attributes := #[] }, { accessFlags := 9, nameIndex := 198, descriptorIndex := 335, attributes := #[] }, { accessFlags := 9, nameIndex := 201, descriptorIndex := 335, attributes := #[] }] 49 4 #[] #[{ accessFlags := 25, nameIndex := 354, descriptorIndex := 339, attributes := #[] }, { accessFlags := 25, nameIndex := 358, descriptorIndex := 339, attributes := #[] }, { accessFlags := 25, nameIndex := 361, descriptorIndex := 339, attributes := #[] }, { accessFlags := 26, nameIndex := 364, descriptorIndex := 339, attributes := #[] }, { accessFlags := 26, nameIndex := 365, descriptorIndex := 339, attributes := #[] }, { accessFlags := 26, nameIndex := 172, descriptorIndex := 173, attributes := #[] }, { accessFlags := 26, nameIndex := 176, descriptorIndex := 173, attributes := #[] }, { accessFlags := 8, nameIndex := 344, descriptorIndex := 339, attributes := #[] }, { accessFlags := 8, nameIndex := 338, descriptorIndex := 339, attributes := #[] }, { accessFlags := 4120, nameIndex := 245, descriptorIndex := 246, attributes := #[] }])
  fields := #[{ name := "E", type := .double, accessFlags := 25, slot := 0, constantValue := 0 }, { name := "PI", type := .double, accessFlags := 25, slot := 1, constantValue := 0 }, { name := "TAU", type := .double, accessFlags := 25, slot := 2, constantValue := 0 }, { name := "DEGREES_TO_RADIANS", type := .double, accessFlags := 26, slot := 3, constantValue := 0 }, { name := "RADIANS_TO_DEGREES", type := .double, accessFlags := 26, slot := 4, constantValue := 0 }, { name := "negativeZeroFloatBits", type := .long, accessFlags := 26, slot := 5, constantValue := 0 }, { name := "negativeZeroDoubleBits", type := .long, accessFlags := 26, slot := 6, constantValue := 0 }, { name := "twoToTheDoubleScaleUp", type := .double, accessFlags := 8, slot := 7, constantValue := 0 }, { name := "twoToTheDoubleScaleDown", type := .double, accessFlags := 8, slot := 8, constantValue := 0 }, { name := "$assertionsDisabled", type := .boolean, accessFlags := 4120, slot := 9, constantValue := 0 }]
  methods := #[k12m0, k12m1, k12m2]
  instanceTypes := #[]
  staticTypes := #[.double, .double, .double, .double, .double, .long, .long, .double, .double, .boolean]
  resolved := Array.replicate 460 none
  statics := none }

def pool13 : Array CpInfo := pool [(2, .class_ 4), (1, u "java/lang/Object"), (0, u "<init>"), (0, u "()V"), (1, .class_ 10), (1, u "java/lang/CharacterData")] 75

def k13m0 : Method := { name := "<init>", desc := "()V", sig := { parameters := [], returnType := none }, accessFlags := 0, code := none }
/-- java/lang/CharacterData -/
def k13 : Class := { plain "java/lang/CharacterData" (some 0) with
  accessFlags := 1056
  interfaces := #[]
  cf := some (fileOf pool13 8 #[] #[{ accessFlags := 0, nameIndex := 5, descriptorIndex := 6, attributes := #[] }] 1056 2 #[] #[])
  fields := #[]
  methods := #[k13m0]
  instanceTypes := #[]
  staticTypes := #[]
  resolved := Array.replicate 86 none
  statics := none }

def pool14 : Array CpInfo := pool [(1, .fieldref 2 3), (0, .class_ 4), (0, .nameAndType 5 6), (0, u "java/lang/CharacterDataLatin1"), (0, u "A"), (0, u "[I"), (2, u "B"), (0, u "[C"), (3, u "(I)I"), (0, .methodref 2 16), (0, .nameAndType 17 14), (0, u "getProperties"), (3, u "(I)Z"), (5, u "DIGITS"), (0, u "[B"), (8, u "sharpsMap"), (1, .class_ 41), (1, u "java/lang/CharacterData"), (0, u "<init>"), (0, u "()V"), (3, u "instance"), (0, u "Ljava/lang/CharacterDataLatin1;"), (66, u "equalsIgnoreCase"), (0, u "(BB)Z"), (10, u "isWhitespace")] 13

def k14c0 : Code := { maxStack := 2, maxLocals := 4, code := jdk_116_method_1_code, exceptionTable := #[], attributes := #[] }
def k14m0 : Method := { name := "getProperties", desc := "(I)I", sig := { parameters := [.int], returnType := some .int }, accessFlags := 0, code := some k14c0 }
def k14c1 : Code := { maxStack := 3, maxLocals := 3, code := jdk_116_method_22_code, exceptionTable := #[], attributes := #[] }
def k14m1 : Method := { name := "equalsIgnoreCase", desc := "(BB)Z", sig := { parameters := [.byte, .byte], returnType := some .boolean }, accessFlags := 8, code := some k14c1 }
def k14c2 : Code := { maxStack := 2, maxLocals := 3, code := jdk_116_method_26_code, exceptionTable := #[], attributes := #[] }
def k14m2 : Method := { name := "isWhitespace", desc := "(I)Z", sig := { parameters := [.int], returnType := some .boolean }, accessFlags := 0, code := some k14c2 }
def k14m3 : Method := { name := "<init>", desc := "()V", sig := { parameters := [], returnType := none }, accessFlags := 2, code := none }
/-- java/lang/CharacterDataLatin1 -/
def k14 : Class := { plain "java/lang/CharacterDataLatin1" (some 13) with
  accessFlags := 32
  interfaces := #[]
  cf := some (fileOf pool14 2 #[] #[{ accessFlags := 0, nameIndex := 17, descriptorIndex := 14, attributes := #[] }, { accessFlags := 8, nameIndex := 115, descriptorIndex := 116, attributes := #[] }, { accessFlags := 0, nameIndex := 127, descriptorIndex := 21, attributes := #[] }, { accessFlags := 2, nameIndex := 42, descriptorIndex := 43, attributes := #[] }] 32 39 #[] #[{ accessFlags := 26, nameIndex := 27, descriptorIndex := 28, attributes := #[] }, { accessFlags := 8, nameIndex := 37, descriptorIndex := 10, attributes := #[] }, { accessFlags := 24, nameIndex := 47, descriptorIndex := 48, attributes := #[] }, { accessFlags := 24, nameIndex := 5, descriptorIndex := 6, attributes := #[] }, { accessFlags := 24, nameIndex := 9, descriptorIndex := 10, attributes := #[] }])
  fields := #[{ name := "DIGITS", type := (.array .byte), accessFlags := 26, slot := 0, constantValue := 0 }, { name := "sharpsMap", type := (.array .char), accessFlags := 8, slot := 1, constantValue := 0 }, { name := "instance", type := (.object "java/lang/CharacterDataLatin1"), accessFlags := 24, slot := 2, constantValue := 0 }, { name := "A", type := (.array .int), accessFlags := 24, slot := 3, constantValue := 0 }, { name := "B", type := (.array .char), accessFlags := 24, slot := 4, constantValue := 0 }]
  methods := #[k14m0, k14m1, k14m2, k14m3]
  instanceTypes := #[]
  staticTypes := #[(.array .byte), (.array .char), (.object "java/lang/CharacterDataLatin1"), (.array .int), (.array .char)]
  resolved := Array.replicate 141 none
  statics := some 2 }

def pool15 : Array CpInfo := pool [(2, .class_ 4), (1, u "java/lang/Object"), (0, u "<init>"), (0, u "()V"), (7, .class_ 16), (1, u "java/util/Arrays"), (57, .class_ 76), (1, u "java/util/Arrays$NaturalOrder"), (36, .class_ 115), (1, u "java/util/Arrays$LegacyMergeSort"), (1, u "Z"), (21, u "copyOfRange"), (10, .methodref 151 152), (0, .class_ 153), (0, .nameAndType 154 155), (0, u "java/lang/System"), (0, u "arraycopy"), (0, u "(Ljava/lang/Object;ILjava/lang/Object;II)V"), (148, .methodref 305 306), (0, .class_ 307), (0, .nameAndType 308 309), (0, u "java/lang/Math"), (0, u "min"), (0, u "(II)I"), (29, .methodref 14 340), (0, .nameAndType 341 342), (0, u "copyOfRangeByte"), (0, u "([BII)[B"), (0, .methodref 14 344), (0, .nameAndType 345 346), (0, u "checkLength"), (0, u "(II)V"), (28, .class_ 376), (0, u "java/util/Arrays$ArrayList"), (68, u "$assertionsDisabled"), (269, u "MIN_ARRAY_SORT_GRAN"), (0, u "I"), (2, u "INSERTIONSORT_THRESHOLD"), (255, .class_ 976), (0, u "java/util/Arrays$ArrayItr")] 52

def k15m0 : Method := { name := "<init>", desc := "()V", sig := { parameters := [], returnType := none }, accessFlags := 2, code := none }
def k15c1 : Code := { maxStack := 4, maxLocals := 2, code := jdk_65_method_131_code, exceptionTable := #[], attributes := #[] }
def k15m1 : Method := { name := "checkLength", desc := "(II)V", sig := { parameters := [.int, .int], returnType := none }, accessFlags := 10, code := some k15c1 }
def k15c2 : Code := { maxStack := 3, maxLocals := 3, code := jdk_65_method_132_code, exceptionTable := #[], attributes := #[] }
def k15m2 : Method := { name := "copyOfRange", desc := "([BII)[B", sig := { parameters := [(.array .byte), .int, .int], returnType := some (.array .byte) }, accessFlags := 9, code := some k15c2 }
def k15c3 : Code := { maxStack := 6, maxLocals := 5, code := jdk_65_method_133_code, exceptionTable := #[], attributes := #[] }
def k15m3 : Method := { name := "copyOfRangeByte", desc := "([BII)[B", sig := { parameters := [(.array .byte), .int, .int], returnType := some (.array .byte) }, accessFlags := 10, code := some k15c3 }
/-- java/util/Arrays -/
def k15 : Class := { plain "java/util/Arrays" (some 0) with
  accessFlags := 49
  interfaces := #[]
  cf := some (fileOf pool15 14 #[.nestMembers #[975, 375, 113, 74]] #[{ accessFlags := 2, nameIndex := 5, descriptorIndex := 6, attributes := #[] }, { accessFlags := 10, nameIndex := 345, descriptorIndex := 346, attributes := #[] }, { accessFlags := 9, nameIndex := 139, descriptorIndex := 342, attributes := #[] }, { accessFlags := 10, nameIndex := 341, descriptorIndex := 342, attributes := #[] }] 49 2 #[] #[{ accessFlags := 26, nameIndex := 715, descriptorIndex := 716, attributes := #[] }, { accessFlags := 26, nameIndex := 719, descriptorIndex := 716, attributes := #[] }, { accessFlags := 4120, nameIndex := 445, descriptorIndex := 117, attributes := #[] }])
  fields := #[{ name := "MIN_ARRAY_SORT_GRAN", type := .int, accessFlags := 26, slot := 0, constantValue := 0 }, { name := "INSERTIONSORT_THRESHOLD", type := .int, accessFlags := 26, slot := 1, constantValue := 0 }, { name := "$assertionsDisabled", type := .boolean, accessFlags := 4120, slot := 2, constantValue := 0 }]
  methods := #[k15m0, k15m1, k15m2, k15m3]
  instanceTypes := #[]
  staticTypes := #[.int, .int, .boolean]
  resolved := Array.replicate 1029 none
  statics := none }

def pool16 : Array CpInfo := pool [(2, .class_ 4), (1, u "java/lang/Object"), (0, u "<init>"), (0, u "()V"), (1, .class_ 10), (1, u "java/lang/System"), (0, u "allowSecurityManager"), (0, u "I"), (16, u "cons"), (0, u "Ljava/io/Console;"), (77, .class_ 110), (1, u "java/lang/System$CallersHolder"), (43, u "initialErrStream"), (0, u "Ljava/io/PrintStream;"), (19, u "security"), (0, u "Ljava/lang/SecurityManager;"), (31, .class_ 209), (0, u "java/lang/System$1"), (7, u "props"), (0, u "Ljava/util/Properties;"), (2, u "lineSeparator"), (0, u "Ljava/lang/String;"), (96, .class_ 321), (1, u "java/lang/System$LoggerFinder"), (5, .class_ 328), (0, u "java/lang/System$Logger"), (67, u "err"), (2, u "out"), (91, u "notSupportedJnuEncoding"), (15, u "in"), (17, u "initialIn"), (0, u "Ljava/io/InputStream;"), (35, u "bootLayer"), (0, u "Ljava/lang/ModuleLayer;"), (99, .class_ 664), (0, u "java/lang/System$2"), (9, u "NEVER"), (2, u "MAYBE"), (49, u "arraycopy"), (0, u "(Ljava/lang/Object;ILjava/lang/Object;II)V"), (72, .class_ 802), (0, u "java/lang/System$Logger$Level")] 31

def k16m0 : Method := { name := "<init>", desc := "()V", sig := { parameters := [], returnType := none }, accessFlags := 2, code := none }
def k16m1 : Method := { name := "arraycopy", desc := "(Ljava/lang/Object;ILjava/lang/Object;II)V", sig := { parameters := [(.object "java/lang/Object"), .int, (.object "java/lang/Object"), .int, .int], returnType := none }, accessFlags := 265, code := none }
/-- java/lang/System -/
def k16 : Class := { plain "java/lang/System" (some 0) with
  accessFlags := 49
  interfaces := #[]
  cf := some (fileOf pool16 8 #[.nestMembers #[319, 327, 801, 108, 663, 208]] #[{ accessFlags := 2, nameIndex := 5, descriptorIndex := 6, attributes := #[] }, { accessFlags := 265, nameIndex := 727, descriptorIndex := 728, attributes := #[] }] 49 2 #[] #[{ accessFlags := 25, nameIndex := 507, descriptorIndex := 526, attributes := #[] }, { accessFlags := 25, nameIndex := 399, descriptorIndex := 155, attributes := #[] }, { accessFlags := 25, nameIndex := 396, descriptorIndex := 155, attributes := #[] }, { accessFlags := 10, nameIndex := 525, descriptorIndex := 526, attributes := #[] }, { accessFlags := 26, nameIndex := 674, descriptorIndex := 12, attributes := #[] }, { accessFlags := 26, nameIndex := 677, descriptorIndex := 12, attributes := #[] }, { accessFlags := 10, nameIndex := 11, descriptorIndex := 12, attributes := #[] }, { accessFlags := 74, nameIndex := 175, descriptorIndex := 176, attributes := #[] }, { accessFlags := 10, nameIndex := 491, descriptorIndex := 222, attributes := #[] }, { accessFlags := 74, nameIndex := 29, descriptorIndex := 30, attributes := #[] }, { accessFlags := 74, nameIndex := 154, descriptorIndex := 155, attributes := #[] }, { accessFlags := 10, nameIndex := 217, descriptorIndex := 218, attributes := #[] }, { accessFlags := 10, nameIndex := 221, descriptorIndex := 222, attributes := #[] }, { accessFlags := 8, nameIndex := 562, descriptorIndex := 563, attributes := #[] }])
  fields := #[{ name := "in", type := (.object "java/io/InputStream"), accessFlags := 25, slot := 0, constantValue := 0 }, { name := "out", type := (.object "java/io/PrintStream"), accessFlags := 25, slot := 1, constantValue := 0 }, { name := "err", type := (.object "java/io/PrintStream"), accessFlags := 25, slot := 2, constantValue := 0 }, { name := "initialIn", type := (.object "java/io/InputStream"), accessFlags := 10, slot := 3, constantValue := 0 }, { name := "NEVER", type := .int, accessFlags := 26, slot := 4, constantValue := 0 }, { name := "MAYBE", type := .int, accessFlags := 26, slot := 5, constantValue := 0 }, { name := "allowSecurityManager", type := .int, accessFlags := 10, slot := 6, constantValue := 0 }, { name := "security", type := (.object "java/lang/SecurityManager"), accessFlags := 74, slot := 7, constantValue := 0 }, { name := "notSupportedJnuEncoding", type := (.object "java/lang/String"), accessFlags := 10, slot := 8, constantValue := 0 }, { name := "cons", type := (.object "java/io/Console"), accessFlags := 74, slot := 9, constantValue := 0 }, { name := "initialErrStream", type := (.object "java/io/PrintStream"), accessFlags := 74, slot := 10, constantValue := 0 }, { name := "props", type := (.object "java/util/Properties"), accessFlags := 10, slot := 11, constantValue := 0 }, { name := "lineSeparator", type := (.object "java/lang/String"), accessFlags := 10, slot := 12, constantValue := 0 }, { name := "bootLayer", type := (.object "java/lang/ModuleLayer"), accessFlags := 8, slot := 13, constantValue := 0 }]
  methods := #[k16m0, k16m1]
  instanceTypes := #[]
  staticTypes := #[(.object "java/io/InputStream"), (.object "java/io/PrintStream"), (.object "java/io/PrintStream"), (.object "java/io/InputStream"), .int, .int, .int, (.object "java/lang/SecurityManager"), (.object "java/lang/String"), (.object "java/io/Console"), (.object "java/io/PrintStream"), (.object "java/util/Properties"), (.object "java/lang/String"), (.object "java/lang/ModuleLayer")]
  resolved := Array.replicate 834 none
  statics := none }

def pool17 : Array CpInfo := pool [(9, u "<init>"), (6, .class_ 18), (1, u "java/lang/Object"), (0, u "()V"), (1, .class_ 23), (1, u "jdk/internal/util/ArraysSupport"), (0, u "LOG2_ARRAY_LONG_INDEX_SCALE"), (0, u "I"), (2, u "U"), (0, u "Ljdk/internal/misc/Unsafe;"), (8, u "BIG_ENDIAN"), (0, u "Z"), (8, u "LOG2_BYTE_BIT_SIZE"), (4, u "LOG2_ARRAY_INT_INDEX_SCALE"), (54, u "JLA"), (0, u "Ljdk/internal/access/JavaLangAccess;"), (11, u "LOG2_ARRAY_BOOLEAN_INDEX_SCALE"), (9, u "LOG2_ARRAY_BYTE_INDEX_SCALE"), (5, u "LOG2_ARRAY_CHAR_INDEX_SCALE"), (5, u "LOG2_ARRAY_SHORT_INDEX_SCALE"), (18, u "LOG2_ARRAY_FLOAT_INDEX_SCALE"), (24, u "LOG2_ARRAY_DOUBLE_INDEX_SCALE"), (89, u "T_BOOLEAN"), (2, u "T_CHAR"), (1, u "T_FLOAT"), (1, u "T_DOUBLE"), (1, u "T_BYTE"), (1, u "T_SHORT"), (1, u "T_INT"), (1, u "T_LONG"), (1, u "SOFT_MAX_ARRAY_LENGTH")] 83

def k17m0 : Method := { name := "<init>", desc := "()V", sig := { parameters := [], returnType := none }, accessFlags := 2, code := none }
/-- jdk/internal/util/ArraysSupport -/
def k17 : Class := { plain "jdk/internal/util/ArraysSupport" (some 0) with
  accessFlags := 33
  interfaces := #[]
  cf := some (fileOf pool17 21 #[] #[{ accessFlags := 2, nameIndex := 9, descriptorIndex := 19, attributes := #[] }] 33 16 #[] #[{ accessFlags := 24, nameIndex := 28, descriptorIndex := 29, attributes := #[] }, { accessFlags := 26, nameIndex := 38, descriptorIndex := 39, attributes := #[] }, { accessFlags := 25, nameIndex := 121, descriptorIndex := 25, attributes := #[] }, { accessFlags := 25, nameIndex := 131, descriptorIndex := 25, attributes := #[] }, { accessFlags := 25, nameIndex := 137, descriptorIndex := 25, attributes := #[] }, { accessFlags := 25, nameIndex := 143, descriptorIndex := 25, attributes := #[] }, { accessFlags := 25, nameIndex := 53, descriptorIndex := 25, attributes := #[] }, { accessFlags := 25, nameIndex := 24, descriptorIndex := 25, attributes := #[] }, { accessFlags := 25, nameIndex := 162, descriptorIndex := 25, attributes := #[] }, { accessFlags := 25, nameIndex := 187, descriptorIndex := 25, attributes := #[] }, { accessFlags := 26, nameIndex := 48, descriptorIndex := 25, attributes := #[] }, { accessFlags := 25, nameIndex := 277, descriptorIndex := 25, attributes := #[] }, { accessFlags := 25, nameIndex := 280, descriptorIndex := 25, attributes := #[] }, { accessFlags := 25, nameIndex := 282, descriptorIndex := 25, attributes := #[] }, { accessFlags := 25, nameIndex := 284, descriptorIndex := 25, attributes := #[] }, { accessFlags := 25, nameIndex := 286, descriptorIndex := 25, attributes := #[] }, { accessFlags := 25, nameIndex := 288, descriptorIndex := 25, attributes := #[] }, { accessFlags := 25, nameIndex := 290, descriptorIndex := 25, attributes := #[] }, { accessFlags := 25, nameIndex := 292, descriptorIndex := 25, attributes := #[] }, { accessFlags := 26, nameIndex := 108, descriptorIndex := 109, attributes := #[] }, { accessFlags := 25, nameIndex := 294, descriptorIndex := 25, attributes := #[] }])
  fields := #[{ name := "U", type := (.object "jdk/internal/misc/Unsafe"), accessFlags := 24, slot := 0, constantValue := 0 }, { name := "BIG_ENDIAN", type := .boolean, accessFlags := 26, slot := 1, constantValue := 0 }, { name := "LOG2_ARRAY_BOOLEAN_INDEX_SCALE", type := .int, accessFlags := 25, slot := 2, constantValue := 0 }, { name := "LOG2_ARRAY_BYTE_INDEX_SCALE", type := .int, accessFlags := 25, slot := 3, constantValue := 0 }, { name := "LOG2_ARRAY_CHAR_INDEX_SCALE", type := .int, accessFlags := 25, slot := 4, constantValue := 0 }, { name := "LOG2_ARRAY_SHORT_INDEX_SCALE", type := .int, accessFlags := 25, slot := 5, constantValue := 0 }, { name := "LOG2_ARRAY_INT_INDEX_SCALE", type := .int, accessFlags := 25, slot := 6, constantValue := 0 }, { name := "LOG2_ARRAY_LONG_INDEX_SCALE", type := .int, accessFlags := 25, slot := 7, constantValue := 0 }, { name := "LOG2_ARRAY_FLOAT_INDEX_SCALE", type := .int, accessFlags := 25, slot := 8, constantValue := 0 }, { name := "LOG2_ARRAY_DOUBLE_INDEX_SCALE", type := .int, accessFlags := 25, slot := 9, constantValue := 0 }, { name := "LOG2_BYTE_BIT_SIZE", type := .int, accessFlags := 26, slot := 10, constantValue := 0 }, { name := "T_BOOLEAN", type := .int, accessFlags := 25, slot := 11, constantValue := 0 }, { name := "T_CHAR", type := .int, accessFlags := 25, slot := 12, constantValue := 0 }, { name := "T_FLOAT", type := .int, accessFlags := 25, slot := 13, constantValue := 0 }, { name := "T_DOUBLE", type := .int, accessFlags := 25, slot := 14, constantValue := 0 }, { name := "T_BYTE", type := .int, accessFlags := 25, slot := 15, constantValue := 0 }, { name := "T_SHORT", type := .int, accessFlags := 25, slot := 16, constantValue := 0 }, { name := "T_INT", type := .int, accessFlags := 25, slot := 17, constantValue := 0 }, { name := "T_LONG", type := .int, accessFlags := 25, slot := 18, constantValue := 0 }, { name := "JLA", type := (.object "jdk/internal/access/JavaLangAccess"), accessFlags := 26, slot := 19, constantValue := 0 }, { name := "SOFT_MAX_ARRAY_LENGTH", type := .int, accessFlags := 25, slot := 20, constantValue := 0 }]
  methods := #[k17m0]
  instanceTypes := #[]
  staticTypes := #[(.object "jdk/internal/misc/Unsafe"), .boolean, .int, .int, .int, .int, .int, .int, .int, .int, .int, .int, .int, .int, .int, .int, .int, .int, .int, (.object "jdk/internal/access/JavaLangAccess"), .int]
  resolved := Array.replicate 378 none
  statics := none }

def pool18 : Array CpInfo := pool [(1, u "java/lang/Cloneable"), (0, .class_ 1), (0, u "java/lang/Object"), (0, .class_ 3)] 3

/-- java/lang/Cloneable -/
def k18 : Class := { plain "java/lang/Cloneable" (some 0) with
  accessFlags := 1537
  interfaces := #[]
  cf := some (fileOf pool18 2 #[] #[] 1537 4 #[] #[])
  fields := #[]
  methods := #[]
  instanceTypes := #[]
  staticTypes := #[]
  resolved := Array.replicate 8 none
  statics := none }

/-- the primitive byte -/
def k19 : Class := { plain "byte" none with kind := .primitive 'B', accessFlags := 0x411 }
/-- [B -/
def k20 : Class := { plain "[B" (some 0) with kind := .array 19 .byte, interfaces := #[18, 2], accessFlags := 1041 }

/-- the primitive char -/
def k21 : Class := { plain "char" none with kind := .primitive 'C', accessFlags := 0x411 }
/-- [C -/
def k22 : Class := { plain "[C" (some 0) with kind := .array 21 .char, interfaces := #[18, 2], accessFlags := 1041 }

/-- the primitive int -/
def k23 : Class := { plain "int" none with kind := .primitive 'I', accessFlags := 0x411 }
/-- [I -/
def k24 : Class := { plain "[I" (some 0) with kind := .array 23 .int, interfaces := #[18, 2], accessFlags := 1041 }

def heap : Heap := #[{ cls := 7, slots := #[.long 0, .int 1, .null, .int 0, .null, .int 0, .int 0], vm := .statics 7 },
  { cls := 9, slots := #[.null, .null, .null], vm := .statics 9 },
  { cls := 14, slots := #[.null, .null, .ref 4, .ref 5, .null], vm := .statics 14 },
  { cls := 17, slots := #[], vm := .none },
  { cls := 14, slots := #[], vm := .none },
  { cls := 24, slots := #[.int 1207963663, .int 1207963663, .int 1207963663, .int 1207963663, .int 1207963663, .int 1207963663, .int 1207963663, .int 1207963663, .int 1207963663, .int 1476411407, .int 1342193679, .int 1476411407, .int 1610629135, .int 1342193679, .int 1207963663, .int 1207963663, .int 1207963663, .int 1207963663, .int 1207963663, .int 1207963663, .int 1207963663, .int 1207963663, .int 1207963663, .int 1207963663, .int 1207963663, .int 1207963663, .int 1207963663, .int 1207963663, .int 1342193679, .int 1342193679, .int 1342193679, .int 1476411407, .int 1610629132, .int 1744830488, .int 1744830488, .int 671088664, .int 671113242, .int 671088664, .int 1744830488, .int 1744830488, .int (-402653163), .int (-402653162), .int 1744830488, .int 536870937, .int 939524120, .int 536870932, .int 939524120, .int 939524120, .int 402667017, .int 402667017, .int 402667017, .int 402667017, .int 402667017, .int 402667017, .int 402667017, .int 402667017, .int 402667017, .int 402667017, .int 939524120, .int 1744830488, .int (-402653159), .int 1744830489, .int (-402653159), .int 1744830488, .int 1744830488, .int 8552417, .int 8552417, .int 8552417, .int 8552417, .int 8552417, .int 8552417, .int 8552417, .int 8552417, .int 8552417, .int 8552417, .int 8552417, .int 8552417, .int 8552417, .int 8552417, .int 8552417, .int 8552417, .int 8552417, .int 8552417, .int 8552417, .int 8552417, .int 8552417, .int 8552417, .int 8552417, .int 8552417, .int 8552417, .int 8552417, .int (-402653163), .int 1744830488, .int (-402653162), .int 1744830491, .int 1744850967, .int 1744830491, .int 8486882, .int 8486882, .int 8486882, .int 8486882, .int 8486882, .int 8486882, .int 8486882, .int 8486882, .int 8486882, .int 8486882, .int 8486882, .int 8486882, .int 8486882, .int 8486882, .int 8486882, .int 8486882, .int 8486882, .int 8486882, .int 8486882, .int 8486882, .int 8486882, .int 8486882, .int 8486882, .int 8486882, .int 8486882, .int 8486882, .int (-402653163), .int 1744830489, .int (-402653162), .int 1744830489, .int 1207963663, .int 1207963663, .int 1207963663, .int 1207963663, .int 1207963663, .int 1207963663, .int 1342181391, .int 1207963663, .int 1207963663, .int 1207963663, .int 1207963663, .int 1207963663, .int 1207963663, .int 1207963663, .int 1207963663, .int 1207963663, .int 1207963663, .int 1207963663, .int 1207963663, .int 1207963663, .int 1207963663, .int 1207963663, .int 1207963663, .int 1207963663, .int 1207963663, .int 1207963663, .int 1207963663, .int 1207963663, .int 1207963663, .int 1207963663, .int 1207963663, .int 1207963663, .int 1207963663, .int 939524108, .int 1744830488, .int 671113242, .int 671113242, .int 671113242, .int 671113242, .int 1744830492, .int 1744830488, .int 1744830491, .int 1744830492, .int 28677, .int (-402653155), .int 1744830489, .int 1207963664, .int 1744830492, .int 1744830491, .int 671088668, .int 671088665, .int 402654731, .int 402654731, .int 1744830491, .int 134049794, .int 1744830488, .int 1744830488, .int 1744830491, .int 402654475, .int 28677, .int (-402653154), .int 1744832523, .int 1744832523, .int 1744832523, .int 1744830488, .int 8548353, .int 8548353, .int 8548353, .int 8548353, .int 8548353, .int 8548353, .int 8548353, .int 8548353, .int 8548353, .int 8548353, .int 8548353, .int 8548353, .int 8548353, .int 8548353, .int 8548353, .int 8548353, .int 8548353, .int 8548353, .int 8548353, .int 8548353, .int 8548353, .int 8548353, .int 8548353, .int 1744830489, .int 8548353, .int 8548353, .int 8548353, .int 8548353, .int 8548353, .int 8548353, .int 8548353, .int 134049794, .int 8482818, .int 8482818, .int 8482818, .int 8482818, .int 8482818, .int 8482818, .int 8482818, .int 8482818, .int 8482818, .int 8482818, .int 8482818, .int 8482818, .int 8482818, .int 8482818, .int 8482818, .int 8482818, .int 8482818, .int 8482818, .int 8482818, .int 8482818, .int 8482818, .int 8482818, .int 8482818, .int 1744830489, .int 8482818, .int 8482818, .int 8482818, .int 8482818, .int 8482818, .int 8482818, .int 8482818, .int 102592514], vm := .none }]
def classes : Array Class := #[k0, k1, k2, k3, k4, k5, k6, k7, k8, k9, k10, k11, k12, k13, k14, k15, k16, k17, k18, k19, k20, k21, k22, k23, k24]
def interned : List (Array UInt16 × Addr) := []
def slotsUsed : Nat := 271
def theMethod : MethodId := ⟨1, 3⟩
def args0 : Array Value := #[.int 1, .int 5, .int 65, .int 541065248]
def aboutOver (below : List Frame) : State where
  vm := { classes := classes, interned := interned.toArray }
  heap := heap
  slotsUsed := slotsUsed
  threads := #[{ frames := .invoking theMethod args0 :: below }]
def below0 : List Frame := [.native { method := ⟨0, 0⟩, args := #[] }]
def about1 : State := aboutOver below0
def p0 : Program := .bare "" "" ""
def e0 : Env := launch0.env 0 0 0
theorem w_frames : about1.frames = Frame.invoking theMethod args0 :: below0 := rfl
set_option maxRecDepth 65536 in
theorem w_args : argsFit about1.vm theMethod args0 = true := by decide +kernel
set_option maxRecDepth 65536 in
theorem w_heap : heapFits about1 = true := by decide +kernel
set_option maxRecDepth 65536 in
theorem w_runnable : about1.curStatus? = some .runnable := by decide +kernel
set_option maxRecDepth 65536 in
theorem w_alone : about1.alone = true := by decide +kernel
set_option maxRecDepth 65536 in
theorem w_named : about1.methodNamed? x = some theMethod := by decide +kernel
set_option maxRecDepth 65536 in
theorem w_hears : about1.hears theMethod below0 = true := by decide +kernel
set_option maxRecDepth 65536 in
theorem w_ripe : about1.ripe theMethod args0 below0 = true := by decide +kernel
theorem w_running : about1.status = .running := rfl
set_option maxRecDepth 65536 in
theorem w_room : about1.hasRoom e0.platform room_1 = true :=
  launch0.hasRoom_least _ room_1 (by decide +kernel) (by decide +kernel) (by decide +kernel) (by decide +kernel) (by decide +kernel) (by decide +kernel)
theorem allAtoms_all (ts : List Jvm.Cond) (a : Array Jvm.Value) (st : Jvm.State) : (allAtoms ts).before a st = ts.all (fun c => c.before a st) := by
  induction ts with
  | nil => rfl
  | cons c t ih =>
    show (Jvm.Cond.and c (allAtoms t)).before a st = _
    rw [Jvm.Cond.before_and, ih, List.all_cons]
def words1 : List Jvm.Cond := Jvm.Cond.code x code maxLocals ret :: tables_1
/-- a 'code' word, met by the world's own term for the bytes: nothing is compared byte by byte -/
theorem code_word {y : MethodName} {bytes : ByteArray} {mx : Nat} {rt : Option FieldType} {a : Array Value} {s : State} {m : MethodId} {meth : Method} {c : Code} (h1 : s.methodNamed? y = some m) (h2 : s.vm.method? m = some meth) (h3 : meth.code = some c) (h4 : c.code = bytes)
    (h5 : (c.maxLocals == mx && c.exceptionTable.isEmpty && decide (c.maxStack ≤ mostOperands) && decide (meth.sig.returnType = rt) && !meth.locks && decide (parseMethodDescriptor y.desc = some meth.sig)) = true) : (Jvm.Cond.code y bytes mx rt).before a s = true := by
  simp only [Bool.and_eq_true, beq_iff_eq, Bool.not_eq_true', decide_eq_true_eq] at h5
  obtain ⟨⟨⟨⟨⟨g1, g2⟩, g3⟩, g4⟩, g5⟩, g6⟩ := h5
  simp [Cond.before, Cond.holds, Cond.value, h1, h2, h3, h4, g1, g2, g3, g4, g5, g6]
def isCode : Jvm.Cond → Bool
  | .code _ _ _ _ => true
  | _ => false
theorem all_split {L : List Jvm.Cond} {P : Jvm.Cond → Bool} (h1 : L.all (fun c => isCode c || P c) = true) (h2 : ∀ c ∈ L.filter isCode, P c = true) : L.all P = true := by
  refine List.all_eq_true.mpr fun c hc => ?_
  have h := List.all_eq_true.mp h1 c hc
  rcases Bool.eq_false_or_eq_true (isCode c) with hi | hi
  · exact h2 c (List.mem_filter.mpr ⟨hc, hi⟩)
  · simpa [hi] using h
set_option maxRecDepth 65536 in
theorem w_c0 : (Jvm.Cond.code x code maxLocals ret).before args0 about1 = true := code_word (m := ⟨1, 3⟩) (meth := k1m3) (c := k1c3) (by decide +kernel) rfl rfl rfl (by decide +kernel)
set_option maxRecDepth 65536 in
theorem w_c1 : (Jvm.Cond.code ({ cls := "java/lang/String", name := "charAt", desc := "(I)C" } : Jvm.MethodName) jdk_42_method_56_code (2 : Nat) (Option.some Jvm.ClassFile.FieldType.char)).before args0 about1 = true := code_word (m := ⟨7, 3⟩) (meth := k7m3) (c := k7c3) (by decide +kernel) rfl rfl rfl (by decide +kernel)
set_option maxRecDepth 65536 in
theorem w_c2 : (Jvm.Cond.code ({ cls := "java/lang/String", name := "isLatin1", desc := "()Z" } : Jvm.MethodName) jdk_42_method_154_code (1 : Nat) (Option.some Jvm.ClassFile.FieldType.boolean)).before args0 about1 = true := code_word (m := ⟨7, 13⟩) (meth := k7m13) (c := k7c13) (by decide +kernel) rfl rfl rfl (by decide +kernel)
set_option maxRecDepth 65536 in
theorem w_c3 : (Jvm.Cond.code ({ cls := "java/lang/StringLatin1", name := "charAt", desc := "([BI)C" } : Jvm.MethodName) jdk_43_method_2_code (2 : Nat) (Option.some Jvm.ClassFile.FieldType.char)).before args0 about1 = true := code_word (m := ⟨8, 1⟩) (meth := k8m1) (c := k8c1) (by decide +kernel) rfl rfl rfl (by decide +kernel)
set_option maxRecDepth 65536 in
theorem w_c4 : (Jvm.Cond.code ({ cls := "java/lang/String", name := "checkIndex", desc := "(II)V" } : Jvm.MethodName) jdk_42_method_155_code (2 : Nat) (Option.none : Option Jvm.ClassFile.FieldType)).before args0 about1 = true := code_word (m := ⟨7, 14⟩) (meth := k7m14) (c := k7c14) (by decide +kernel) rfl rfl rfl (by decide +kernel)
set_option maxRecDepth 65536 in
theorem w_c5 : (Jvm.Cond.code ({ cls := "jdk/internal/util/Preconditions", name := "checkIndex", desc := "(IILjava/util/function/BiFunction;)I" } : Jvm.MethodName) jdk_41_method_11_code (3 : Nat) (Option.some Jvm.ClassFile.FieldType.int)).before args0 about1 = true := code_word (m := ⟨9, 1⟩) (meth := k9m1) (c := k9c1) (by decide +kernel) rfl rfl rfl (by decide +kernel)
set_option maxRecDepth 65536 in
theorem w_c6 : (Jvm.Cond.code ({ cls := "java/lang/String", name := "<init>", desc := "([C)V" } : Jvm.MethodName) jdk_42_method_3_code (2 : Nat) (Option.none : Option Jvm.ClassFile.FieldType)).before args0 about1 = true := code_word (m := ⟨7, 1⟩) (meth := k7m1) (c := k7c1) (by decide +kernel) rfl rfl rfl (by decide +kernel)
set_option maxRecDepth 65536 in
theorem w_c7 : (Jvm.Cond.code ({ cls := "java/lang/String", name := "<init>", desc := "([CIILjava/lang/Void;)V" } : Jvm.MethodName) jdk_42_method_149_code (6 : Nat) (Option.none : Option Jvm.ClassFile.FieldType)).before args0 about1 = true := code_word (m := ⟨7, 10⟩) (meth := k7m10) (c := k7c10) (by decide +kernel) rfl rfl rfl (by decide +kernel)
set_option maxRecDepth 65536 in
theorem w_c8 : (Jvm.Cond.code ({ cls := "java/lang/Object", name := "<init>", desc := "()V" } : Jvm.MethodName) object_method_1_code (1 : Nat) (Option.none : Option Jvm.ClassFile.FieldType)).before args0 about1 = true := code_word (m := ⟨0, 0⟩) (meth := k0m0) (c := k0c0) (by decide +kernel) rfl rfl rfl (by decide +kernel)
set_option maxRecDepth 65536 in
theorem w_c9 : (Jvm.Cond.code ({ cls := "java/lang/StringUTF16", name := "compress", desc := "([CII)[B" } : Jvm.MethodName) jdk_52_method_16_code (6 : Nat) (Option.some (Jvm.ClassFile.FieldType.array Jvm.ClassFile.FieldType.byte))).before args0 about1 = true := code_word (m := ⟨10, 2⟩) (meth := k10m2) (c := k10c2) (by decide +kernel) rfl rfl rfl (by decide +kernel)
set_option maxRecDepth 65536 in
theorem w_c10 : (Jvm.Cond.code ({ cls := "java/lang/StringUTF16", name := "compress", desc := "([CI[BII)I" } : Jvm.MethodName) jdk_52_method_21_code (7 : Nat) (Option.some Jvm.ClassFile.FieldType.int)).before args0 about1 = true := code_word (m := ⟨10, 3⟩) (meth := k10m3) (c := k10c3) (by decide +kernel) rfl rfl rfl (by decide +kernel)
set_option maxRecDepth 65536 in
theorem w_c11 : (Jvm.Cond.code ({ cls := "java/lang/StringUTF16", name := "coderFromArrayLen", desc := "([BI)B" } : Jvm.MethodName) jdk_52_method_15_code (2 : Nat) (Option.some Jvm.ClassFile.FieldType.byte)).before args0 about1 = true := code_word (m := ⟨10, 1⟩) (meth := k10m1) (c := k10c1) (by decide +kernel) rfl rfl rfl (by decide +kernel)
set_option maxRecDepth 65536 in
theorem w_c12 : (Jvm.Cond.code ({ cls := "com/example/brisk_hub/briskhub/http/Form", name := "isForm", desc := "(Ljava/lang/String;)Z" } : Jvm.MethodName) prog_5_method_2_code (3 : Nat) (Option.some Jvm.ClassFile.FieldType.boolean)).before args0 about1 = true := code_word (m := ⟨11, 0⟩) (meth := k11m0) (c := k11c0) (by decide +kernel) rfl rfl rfl (by decide +kernel)
set_option maxRecDepth 65536 in
theorem w_c13 : (Jvm.Cond.code ({ cls := "java/lang/String", name := "indexOf", desc := "(I)I" } : Jvm.MethodName) jdk_42_method_79_code (2 : Nat) (Option.some Jvm.ClassFile.FieldType.int)).before args0 about1 = true := code_word (m := ⟨7, 6⟩) (meth := k7m6) (c := k7c6) (by decide +kernel) rfl rfl rfl (by decide +kernel)
set_option maxRecDepth 65536 in
theorem w_c14 : (Jvm.Cond.code ({ cls := "java/lang/String", name := "indexOf", desc := "(II)I" } : Jvm.MethodName) jdk_42_method_80_code (3 : Nat) (Option.some Jvm.ClassFile.FieldType.int)).before args0 about1 = true := code_word (m := ⟨7, 7⟩) (meth := k7m7) (c := k7c7) (by decide +kernel) rfl rfl rfl (by decide +kernel)
set_option maxRecDepth 65536 in
theorem w_c15 : (Jvm.Cond.code ({ cls := "java/lang/String", name := "length", desc := "()I" } : Jvm.MethodName) jdk_42_method_54_code (1 : Nat) (Option.some Jvm.ClassFile.FieldType.int)).before args0 about1 = true := code_word (m := ⟨7, 2⟩) (meth := k7m2) (c := k7c2) (by decide +kernel) rfl rfl rfl (by decide +kernel)
set_option maxRecDepth 65536 in
theorem w_c16 : (Jvm.Cond.code ({ cls := "java/lang/String", name := "coder", desc := "()B" } : Jvm.MethodName) jdk_42_method_152_code (1 : Nat) (Option.some Jvm.ClassFile.FieldType.byte)).before args0 about1 = true := code_word (m := ⟨7, 12⟩) (meth := k7m12) (c := k7c12) (by decide +kernel) rfl rfl rfl (by decide +kernel)
set_option maxRecDepth 65536 in
theorem w_c17 : (Jvm.Cond.code ({ cls := "java/lang/StringLatin1", name := "indexOf", desc := "([BIII)I" } : Jvm.MethodName) jdk_43_method_22_code (4 : Nat) (Option.some Jvm.ClassFile.FieldType.int)).before args0 about1 = true := code_word (m := ⟨8, 3⟩) (meth := k8m3) (c := k8c3) (by decide +kernel) rfl rfl rfl (by decide +kernel)
set_option maxRecDepth 65536 in
theorem w_c18 : (Jvm.Cond.code ({ cls := "java/lang/StringLatin1", name := "canEncode", desc := "(I)Z" } : Jvm.MethodName) jdk_43_method_4_code (1 : Nat) (Option.some Jvm.ClassFile.FieldType.boolean)).before args0 about1 = true := code_word (m := ⟨8, 2⟩) (meth := k8m2) (c := k8c2) (by decide +kernel) rfl rfl rfl (by decide +kernel)
set_option maxRecDepth 65536 in
theorem w_c19 : (Jvm.Cond.code ({ cls := "java/lang/Math", name := "max", desc := "(II)I" } : Jvm.MethodName) jdk_29_method_65_code (2 : Nat) (Option.some Jvm.ClassFile.FieldType.int)).before args0 about1 = true := code_word (m := ⟨12, 1⟩) (meth := k12m1) (c := k12c1) (by decide +kernel) rfl rfl rfl (by decide +kernel)
set_option maxRecDepth 65536 in
theorem w_c20 : (Jvm.Cond.code ({ cls := "java/lang/Math", name := "min", desc := "(II)I" } : Jvm.MethodName) jdk_29_method_69_code (2 : Nat) (Option.some Jvm.ClassFile.FieldType.int)).before args0 about1 = true := code_word (m := ⟨12, 2⟩) (meth := k12m2) (c := k12c2) (by decide +kernel) rfl rfl rfl (by decide +kernel)
set_option maxRecDepth 65536 in
theorem w_c21 : (Jvm.Cond.code ({ cls := "java/lang/StringLatin1", name := "indexOfChar", desc := "([BIII)I" } : Jvm.MethodName) jdk_43_method_23_code (6 : Nat) (Option.some Jvm.ClassFile.FieldType.int)).before args0 about1 = true := code_word (m := ⟨8, 4⟩) (meth := k8m4) (c := k8c4) (by decide +kernel) rfl rfl rfl (by decide +kernel)
set_option maxRecDepth 65536 in
theorem w_c22 : (Jvm.Cond.code ({ cls := "java/lang/String", name := "strip", desc := "()Ljava/lang/String;" } : Jvm.MethodName) jdk_42_method_114_code (2 : Nat) (Option.some (Jvm.ClassFile.FieldType.object "java/lang/String"))).before args0 about1 = true := code_word (m := ⟨7, 9⟩) (meth := k7m9) (c := k7c9) (by decide +kernel) rfl rfl rfl (by decide +kernel)
set_option maxRecDepth 65536 in
theorem w_c23 : (Jvm.Cond.code ({ cls := "java/lang/StringLatin1", name := "strip", desc := "([B)Ljava/lang/String;" } : Jvm.MethodName) jdk_43_method_39_code (4 : Nat) (Option.some (Jvm.ClassFile.FieldType.object "java/lang/String"))).before args0 about1 = true := code_word (m := ⟨8, 8⟩) (meth := k8m8) (c := k8c8) (by decide +kernel) rfl rfl rfl (by decide +kernel)
set_option maxRecDepth 65536 in
theorem w_c24 : (Jvm.Cond.code ({ cls := "java/lang/StringLatin1", name := "indexOfNonWhitespace", desc := "([B)I" } : Jvm.MethodName) jdk_43_method_37_code (4 : Nat) (Option.some Jvm.ClassFile.FieldType.int)).before args0 about1 = true := code_word (m := ⟨8, 6⟩) (meth := k8m6) (c := k8c6) (by decide +kernel) rfl rfl rfl (by decide +kernel)
set_option maxRecDepth 65536 in
theorem w_c25 : (Jvm.Cond.code ({ cls := "java/lang/StringLatin1", name := "getChar", desc := "([BI)C" } : Jvm.MethodName) jdk_43_method_44_code (2 : Nat) (Option.some Jvm.ClassFile.FieldType.char)).before args0 about1 = true := code_word (m := ⟨8, 9⟩) (meth := k8m9) (c := k8c9) (by decide +kernel) rfl rfl rfl (by decide +kernel)
set_option maxRecDepth 65536 in
theorem w_c26 : (Jvm.Cond.code ({ cls := "java/lang/CharacterDataLatin1", name := "isWhitespace", desc := "(I)Z" } : Jvm.MethodName) jdk_116_method_26_code (3 : Nat) (Option.some Jvm.ClassFile.FieldType.boolean)).before args0 about1 = true := code_word (m := ⟨14, 2⟩) (meth := k14m2) (c := k14c2) (by decide +kernel) rfl rfl rfl (by decide +kernel)
set_option maxRecDepth 65536 in
theorem w_c27 : (Jvm.Cond.code ({ cls := "java/lang/CharacterDataLatin1", name := "getProperties", desc := "(I)I" } : Jvm.MethodName) jdk_116_method_1_code (4 : Nat) (Option.some Jvm.ClassFile.FieldType.int)).before args0 about1 = true := code_word (m := ⟨14, 0⟩) (meth := k14m0) (c := k14c0) (by decide +kernel) rfl rfl rfl (by decide +kernel)
set_option maxRecDepth 65536 in
theorem w_c28 : (Jvm.Cond.code ({ cls := "java/lang/StringLatin1", name := "lastIndexOfNonWhitespace", desc := "([B)I" } : Jvm.MethodName) jdk_43_method_38_code (4 : Nat) (Option.some Jvm.ClassFile.FieldType.int)).before args0 about1 = true := code_word (m := ⟨8, 7⟩) (meth := k8m7) (c := k8c7) (by decide +kernel) rfl rfl rfl (by decide +kernel)
set_option maxRecDepth 65536 in
theorem w_c29 : (Jvm.Cond.code ({ cls := "java/lang/String", name := "equalsIgnoreCase", desc := "(Ljava/lang/String;)Z" } : Jvm.MethodName) jdk_42_method_70_code (2 : Nat) (Option.some Jvm.ClassFile.FieldType.boolean)).before args0 about1 = true := code_word (m := ⟨7, 4⟩) (meth := k7m4) (c := k7c4) (by decide +kernel) rfl rfl rfl (by decide +kernel)
set_option maxRecDepth 65536 in
theorem w_c30 : (Jvm.Cond.code ({ cls := "java/lang/String", name := "regionMatches", desc := "(ZILjava/lang/String;II)Z" } : Jvm.MethodName) jdk_42_method_74_code (9 : Nat) (Option.some Jvm.ClassFile.FieldType.boolean)).before args0 about1 = true := code_word (m := ⟨7, 5⟩) (meth := k7m5) (c := k7c5) (by decide +kernel) rfl rfl rfl (by decide +kernel)
set_option maxRecDepth 65536 in
theorem w_c31 : (Jvm.Cond.code ({ cls := "java/lang/StringLatin1", name := "regionMatchesCI", desc := "([BI[BII)Z" } : Jvm.MethodName) jdk_43_method_30_code (8 : Nat) (Option.some Jvm.ClassFile.FieldType.boolean)).before args0 about1 = true := code_word (m := ⟨8, 5⟩) (meth := k8m5) (c := k8c5) (by decide +kernel) rfl rfl rfl (by decide +kernel)
set_option maxRecDepth 65536 in
theorem w_c32 : (Jvm.Cond.code ({ cls := "java/lang/CharacterDataLatin1", name := "equalsIgnoreCase", desc := "(BB)Z" } : Jvm.MethodName) jdk_116_method_22_code (3 : Nat) (Option.some Jvm.ClassFile.FieldType.boolean)).before args0 about1 = true := code_word (m := ⟨14, 1⟩) (meth := k14m1) (c := k14c1) (by decide +kernel) rfl rfl rfl (by decide +kernel)
set_option maxRecDepth 65536 in
theorem w_c33 : (Jvm.Cond.code ({ cls := "com/example/brisk_hub/briskhub/http/FormIsFormPinLaw", name := "ws", desc := "(C)Z" } : Jvm.MethodName) method_2_code (1 : Nat) (Option.some Jvm.ClassFile.FieldType.boolean)).before args0 about1 = true := code_word (m := ⟨1, 1⟩) (meth := k1m1) (c := k1c1) (by decide +kernel) rfl rfl rfl (by decide +kernel)
set_option maxRecDepth 65536 in
theorem w_c34 : (Jvm.Cond.code ({ cls := "com/example/brisk_hub/briskhub/http/FormIsFormPinLaw", name := "upper", desc := "(C)C" } : Jvm.MethodName) method_3_code (1 : Nat) (Option.some Jvm.ClassFile.FieldType.char)).before args0 about1 = true := code_word (m := ⟨1, 2⟩) (meth := k1m2) (c := k1c2) (by decide +kernel) rfl rfl rfl (by decide +kernel)
set_option maxRecDepth 65536 in
theorem w_c35 : (Jvm.Cond.code ({ cls := "java/lang/StringLatin1", name := "newString", desc := "([BII)Ljava/lang/String;" } : Jvm.MethodName) jdk_43_method_47_code (3 : Nat) (Option.some (Jvm.ClassFile.FieldType.object "java/lang/String"))).before args0 about1 = true := code_word (m := ⟨8, 10⟩) (meth := k8m10) (c := k8c10) (by decide +kernel) rfl rfl rfl (by decide +kernel)
set_option maxRecDepth 65536 in
theorem w_c36 : (Jvm.Cond.code ({ cls := "java/util/Arrays", name := "copyOfRange", desc := "([BII)[B" } : Jvm.MethodName) jdk_65_method_132_code (3 : Nat) (Option.some (Jvm.ClassFile.FieldType.array Jvm.ClassFile.FieldType.byte))).before args0 about1 = true := code_word (m := ⟨15, 2⟩) (meth := k15m2) (c := k15c2) (by decide +kernel) rfl rfl rfl (by decide +kernel)
set_option maxRecDepth 65536 in
theorem w_c37 : (Jvm.Cond.code ({ cls := "java/util/Arrays", name := "copyOfRangeByte", desc := "([BII)[B" } : Jvm.MethodName) jdk_65_method_133_code (5 : Nat) (Option.some (Jvm.ClassFile.FieldType.array Jvm.ClassFile.FieldType.byte))).before args0 about1 = true := code_word (m := ⟨15, 3⟩) (meth := k15m3) (c := k15c3) (by decide +kernel) rfl rfl rfl (by decide +kernel)
set_option maxRecDepth 65536 in
theorem w_c38 : (Jvm.Cond.code ({ cls := "java/util/Arrays", name := "checkLength", desc := "(II)V" } : Jvm.MethodName) jdk_65_method_131_code (2 : Nat) (Option.none : Option Jvm.ClassFile.FieldType)).before args0 about1 = true := code_word (m := ⟨15, 1⟩) (meth := k15m1) (c := k15c1) (by decide +kernel) rfl rfl rfl (by decide +kernel)
set_option maxRecDepth 65536 in
theorem w_c39 : (Jvm.Cond.code ({ cls := "java/lang/String", name := "<init>", desc := "([BB)V" } : Jvm.MethodName) jdk_42_method_151_code (3 : Nat) (Option.none : Option Jvm.ClassFile.FieldType)).before args0 about1 = true := code_word (m := ⟨7, 11⟩) (meth := k7m11) (c := k7c11) (by decide +kernel) rfl rfl rfl (by decide +kernel)
set_option maxRecDepth 65536 in
theorem w_c40 : (Jvm.Cond.code ({ cls := "java/lang/String", name := "substring", desc := "(II)Ljava/lang/String;" } : Jvm.MethodName) jdk_42_method_92_code (5 : Nat) (Option.some (Jvm.ClassFile.FieldType.object "java/lang/String"))).before args0 about1 = true := code_word (m := ⟨7, 8⟩) (meth := k7m8) (c := k7c8) (by decide +kernel) rfl rfl rfl (by decide +kernel)
set_option maxRecDepth 65536 in
theorem w_c41 : (Jvm.Cond.code ({ cls := "java/lang/String", name := "checkBoundsBeginEnd", desc := "(III)V" } : Jvm.MethodName) jdk_42_method_158_code (3 : Nat) (Option.none : Option Jvm.ClassFile.FieldType)).before args0 about1 = true := code_word (m := ⟨7, 15⟩) (meth := k7m15) (c := k7c15) (by decide +kernel) rfl rfl rfl (by decide +kernel)
set_option maxRecDepth 65536 in
theorem w_c42 : (Jvm.Cond.code ({ cls := "jdk/internal/util/Preconditions", name := "checkFromToIndex", desc := "(IIILjava/util/function/BiFunction;)I" } : Jvm.MethodName) jdk_41_method_12_code (4 : Nat) (Option.some Jvm.ClassFile.FieldType.int)).before args0 about1 = true := code_word (m := ⟨9, 2⟩) (meth := k9m2) (c := k9c2) (by decide +kernel) rfl rfl rfl (by decide +kernel)
def codes1 : List Jvm.Cond := [Jvm.Cond.code x code maxLocals ret, Jvm.Cond.code ({ cls := "java/lang/String", name := "charAt", desc := "(I)C" } : Jvm.MethodName) jdk_42_method_56_code (2 : Nat) (Option.some Jvm.ClassFile.FieldType.char), Jvm.Cond.code ({ cls := "java/lang/String", name := "isLatin1", desc := "()Z" } : Jvm.MethodName) jdk_42_method_154_code (1 : Nat) (Option.some Jvm.ClassFile.FieldType.boolean), Jvm.Cond.code ({ cls := "java/lang/StringLatin1", name := "charAt", desc := "([BI)C" } : Jvm.MethodName) jdk_43_method_2_code (2 : Nat) (Option.some Jvm.ClassFile.FieldType.char), Jvm.Cond.code ({ cls := "java/lang/String", name := "checkIndex", desc := "(II)V" } : Jvm.MethodName) jdk_42_method_155_code (2 : Nat) (Option.none : Option Jvm.ClassFile.FieldType), Jvm.Cond.code ({ cls := "jdk/internal/util/Preconditions", name := "checkIndex", desc := "(IILjava/util/function/BiFunction;)I" } : Jvm.MethodName) jdk_41_method_11_code (3 : Nat) (Option.some Jvm.ClassFile.FieldType.int), Jvm.Cond.code ({ cls := "java/lang/String", name := "<init>", desc := "([C)V" } : Jvm.MethodName) jdk_42_method_3_code (2 : Nat) (Option.none : Option Jvm.ClassFile.FieldType), Jvm.Cond.code ({ cls := "java/lang/String", name := "<init>", desc := "([CIILjava/lang/Void;)V" } : Jvm.MethodName) jdk_42_method_149_code (6 : Nat) (Option.none : Option Jvm.ClassFile.FieldType), Jvm.Cond.code ({ cls := "java/lang/Object", name := "<init>", desc := "()V" } : Jvm.MethodName) object_method_1_code (1 : Nat) (Option.none : Option Jvm.ClassFile.FieldType), Jvm.Cond.code ({ cls := "java/lang/StringUTF16", name := "compress", desc := "([CII)[B" } : Jvm.MethodName) jdk_52_method_16_code (6 : Nat) (Option.some (Jvm.ClassFile.FieldType.array Jvm.ClassFile.FieldType.byte)), Jvm.Cond.code ({ cls := "java/lang/StringUTF16", name := "compress", desc := "([CI[BII)I" } : Jvm.MethodName) jdk_52_method_21_code (7 : Nat) (Option.some Jvm.ClassFile.FieldType.int), Jvm.Cond.code ({ cls := "java/lang/StringUTF16", name := "coderFromArrayLen", desc := "([BI)B" } : Jvm.MethodName) jdk_52_method_15_code (2 : Nat) (Option.some Jvm.ClassFile.FieldType.byte), Jvm.Cond.code ({ cls := "com/example/brisk_hub/briskhub/http/Form", name := "isForm", desc := "(Ljava/lang/String;)Z" } : Jvm.MethodName) prog_5_method_2_code (3 : Nat) (Option.some Jvm.ClassFile.FieldType.boolean), Jvm.Cond.code ({ cls := "java/lang/String", name := "indexOf", desc := "(I)I" } : Jvm.MethodName) jdk_42_method_79_code (2 : Nat) (Option.some Jvm.ClassFile.FieldType.int), Jvm.Cond.code ({ cls := "java/lang/String", name := "indexOf", desc := "(II)I" } : Jvm.MethodName) jdk_42_method_80_code (3 : Nat) (Option.some Jvm.ClassFile.FieldType.int), Jvm.Cond.code ({ cls := "java/lang/String", name := "length", desc := "()I" } : Jvm.MethodName) jdk_42_method_54_code (1 : Nat) (Option.some Jvm.ClassFile.FieldType.int), Jvm.Cond.code ({ cls := "java/lang/String", name := "coder", desc := "()B" } : Jvm.MethodName) jdk_42_method_152_code (1 : Nat) (Option.some Jvm.ClassFile.FieldType.byte), Jvm.Cond.code ({ cls := "java/lang/StringLatin1", name := "indexOf", desc := "([BIII)I" } : Jvm.MethodName) jdk_43_method_22_code (4 : Nat) (Option.some Jvm.ClassFile.FieldType.int), Jvm.Cond.code ({ cls := "java/lang/StringLatin1", name := "canEncode", desc := "(I)Z" } : Jvm.MethodName) jdk_43_method_4_code (1 : Nat) (Option.some Jvm.ClassFile.FieldType.boolean), Jvm.Cond.code ({ cls := "java/lang/Math", name := "max", desc := "(II)I" } : Jvm.MethodName) jdk_29_method_65_code (2 : Nat) (Option.some Jvm.ClassFile.FieldType.int), Jvm.Cond.code ({ cls := "java/lang/Math", name := "min", desc := "(II)I" } : Jvm.MethodName) jdk_29_method_69_code (2 : Nat) (Option.some Jvm.ClassFile.FieldType.int), Jvm.Cond.code ({ cls := "java/lang/StringLatin1", name := "indexOfChar", desc := "([BIII)I" } : Jvm.MethodName) jdk_43_method_23_code (6 : Nat) (Option.some Jvm.ClassFile.FieldType.int), Jvm.Cond.code ({ cls := "java/lang/String", name := "strip", desc := "()Ljava/lang/String;" } : Jvm.MethodName) jdk_42_method_114_code (2 : Nat) (Option.some (Jvm.ClassFile.FieldType.object "java/lang/String")), Jvm.Cond.code ({ cls := "java/lang/StringLatin1", name := "strip", desc := "([B)Ljava/lang/String;" } : Jvm.MethodName) jdk_43_method_39_code (4 : Nat) (Option.some (Jvm.ClassFile.FieldType.object "java/lang/String")), Jvm.Cond.code ({ cls := "java/lang/StringLatin1", name := "indexOfNonWhitespace", desc := "([B)I" } : Jvm.MethodName) jdk_43_method_37_code (4 : Nat) (Option.some Jvm.ClassFile.FieldType.int), Jvm.Cond.code ({ cls := "java/lang/StringLatin1", name := "getChar", desc := "([BI)C" } : Jvm.MethodName) jdk_43_method_44_code (2 : Nat) (Option.some Jvm.ClassFile.FieldType.char), Jvm.Cond.code ({ cls := "java/lang/CharacterDataLatin1", name := "isWhitespace", desc := "(I)Z" } : Jvm.MethodName) jdk_116_method_26_code (3 : Nat) (Option.some Jvm.ClassFile.FieldType.boolean), Jvm.Cond.code ({ cls := "java/lang/CharacterDataLatin1", name := "getProperties", desc := "(I)I" } : Jvm.MethodName) jdk_116_method_1_code (4 : Nat) (Option.some Jvm.ClassFile.FieldType.int), Jvm.Cond.code ({ cls := "java/lang/StringLatin1", name := "lastIndexOfNonWhitespace", desc := "([B)I" } : Jvm.MethodName) jdk_43_method_38_code (4 : Nat) (Option.some Jvm.ClassFile.FieldType.int), Jvm.Cond.code ({ cls := "java/lang/String", name := "equalsIgnoreCase", desc := "(Ljava/lang/String;)Z" } : Jvm.MethodName) jdk_42_method_70_code (2 : Nat) (Option.some Jvm.ClassFile.FieldType.boolean), Jvm.Cond.code ({ cls := "java/lang/String", name := "regionMatches", desc := "(ZILjava/lang/String;II)Z" } : Jvm.MethodName) jdk_42_method_74_code (9 : Nat) (Option.some Jvm.ClassFile.FieldType.boolean), Jvm.Cond.code ({ cls := "java/lang/StringLatin1", name := "regionMatchesCI", desc := "([BI[BII)Z" } : Jvm.MethodName) jdk_43_method_30_code (8 : Nat) (Option.some Jvm.ClassFile.FieldType.boolean), Jvm.Cond.code ({ cls := "java/lang/CharacterDataLatin1", name := "equalsIgnoreCase", desc := "(BB)Z" } : Jvm.MethodName) jdk_116_method_22_code (3 : Nat) (Option.some Jvm.ClassFile.FieldType.boolean), Jvm.Cond.code ({ cls := "com/example/brisk_hub/briskhub/http/FormIsFormPinLaw", name := "ws", desc := "(C)Z" } : Jvm.MethodName) method_2_code (1 : Nat) (Option.some Jvm.ClassFile.FieldType.boolean), Jvm.Cond.code ({ cls := "com/example/brisk_hub/briskhub/http/FormIsFormPinLaw", name := "upper", desc := "(C)C" } : Jvm.MethodName) method_3_code (1 : Nat) (Option.some Jvm.ClassFile.FieldType.char), Jvm.Cond.code ({ cls := "java/lang/StringLatin1", name := "newString", desc := "([BII)Ljava/lang/String;" } : Jvm.MethodName) jdk_43_method_47_code (3 : Nat) (Option.some (Jvm.ClassFile.FieldType.object "java/lang/String")), Jvm.Cond.code ({ cls := "java/util/Arrays", name := "copyOfRange", desc := "([BII)[B" } : Jvm.MethodName) jdk_65_method_132_code (3 : Nat) (Option.some (Jvm.ClassFile.FieldType.array Jvm.ClassFile.FieldType.byte)), Jvm.Cond.code ({ cls := "java/util/Arrays", name := "copyOfRangeByte", desc := "([BII)[B" } : Jvm.MethodName) jdk_65_method_133_code (5 : Nat) (Option.some (Jvm.ClassFile.FieldType.array Jvm.ClassFile.FieldType.byte)), Jvm.Cond.code ({ cls := "java/util/Arrays", name := "checkLength", desc := "(II)V" } : Jvm.MethodName) jdk_65_method_131_code (2 : Nat) (Option.none : Option Jvm.ClassFile.FieldType), Jvm.Cond.code ({ cls := "java/lang/String", name := "<init>", desc := "([BB)V" } : Jvm.MethodName) jdk_42_method_151_code (3 : Nat) (Option.none : Option Jvm.ClassFile.FieldType), Jvm.Cond.code ({ cls := "java/lang/String", name := "substring", desc := "(II)Ljava/lang/String;" } : Jvm.MethodName) jdk_42_method_92_code (5 : Nat) (Option.some (Jvm.ClassFile.FieldType.object "java/lang/String")), Jvm.Cond.code ({ cls := "java/lang/String", name := "checkBoundsBeginEnd", desc := "(III)V" } : Jvm.MethodName) jdk_42_method_158_code (3 : Nat) (Option.none : Option Jvm.ClassFile.FieldType), Jvm.Cond.code ({ cls := "jdk/internal/util/Preconditions", name := "checkFromToIndex", desc := "(IIILjava/util/function/BiFunction;)I" } : Jvm.MethodName) jdk_41_method_12_code (4 : Nat) (Option.some Jvm.ClassFile.FieldType.int)]
set_option maxRecDepth 65536 in
theorem codes_eq : words1.filter isCode = codes1 := rfl
theorem w_codes : ∀ c ∈ words1.filter isCode, c.before args0 about1 = true := by
  rw [codes_eq]
  intro c hc
  simp only [codes1, List.mem_cons, List.not_mem_nil, or_false] at hc
  rcases hc with rfl | rfl | rfl | rfl | rfl | rfl | rfl | rfl | rfl | rfl | rfl | rfl | rfl | rfl | rfl | rfl | rfl | rfl | rfl | rfl | rfl | rfl | rfl | rfl | rfl | rfl | rfl | rfl | rfl | rfl | rfl | rfl | rfl | rfl | rfl | rfl | rfl | rfl | rfl | rfl | rfl | rfl | rfl
  · exact w_c0
  · exact w_c1
  · exact w_c2
  · exact w_c3
  · exact w_c4
  · exact w_c5
  · exact w_c6
  · exact w_c7
  · exact w_c8
  · exact w_c9
  · exact w_c10
  · exact w_c11
  · exact w_c12
  · exact w_c13
  · exact w_c14
  · exact w_c15
  · exact w_c16
  · exact w_c17
  · exact w_c18
  · exact w_c19
  · exact w_c20
  · exact w_c21
  · exact w_c22
  · exact w_c23
  · exact w_c24
  · exact w_c25
  · exact w_c26
  · exact w_c27
  · exact w_c28
  · exact w_c29
  · exact w_c30
  · exact w_c31
  · exact w_c32
  · exact w_c33
  · exact w_c34
  · exact w_c35
  · exact w_c36
  · exact w_c37
  · exact w_c38
  · exact w_c39
  · exact w_c40
  · exact w_c41
  · exact w_c42
set_option maxRecDepth 65536 in
theorem w_t1 : (words1.take 24).all (fun c => isCode c || c.before args0 about1) = true := by decide +kernel
set_option maxRecDepth 65536 in
theorem w_t2 : ((words1.drop 24).take 24).all (fun c => isCode c || c.before args0 about1) = true := by decide +kernel
set_option maxRecDepth 65536 in
theorem w_t3 : (((words1.drop 24).drop 24).take 24).all (fun c => isCode c || c.before args0 about1) = true := by decide +kernel
set_option maxRecDepth 65536 in
theorem w_t4 : ((((words1.drop 24).drop 24).drop 24).take 24).all (fun c => isCode c || c.before args0 about1) = true := by decide +kernel
set_option maxRecDepth 65536 in
theorem w_t5 : (((((words1.drop 24).drop 24).drop 24).drop 24).take 24).all (fun c => isCode c || c.before args0 about1) = true := by decide +kernel
set_option maxRecDepth 65536 in
theorem w_t6 : ((((((words1.drop 24).drop 24).drop 24).drop 24).drop 24).take 24).all (fun c => isCode c || c.before args0 about1) = true := by decide +kernel
set_option maxRecDepth 65536 in
theorem w_t7 : (((((((words1.drop 24).drop 24).drop 24).drop 24).drop 24).drop 24).take 24).all (fun c => isCode c || c.before args0 about1) = true := by decide +kernel
set_option maxRecDepth 65536 in
theorem w_t8 : (((((((words1.drop 24).drop 24).drop 24).drop 24).drop 24).drop 24).drop 24).all (fun c => isCode c || c.before args0 about1) = true := by decide +kernel
theorem w_tables : (allAtoms (Jvm.Cond.code x code maxLocals ret :: tables_1)).before args0 about1 = true := by
  rw [allAtoms_all]
  show words1.all (fun c => c.before args0 about1) = true
  refine all_split ?_ w_codes
  rw [← List.take_append_drop 24 words1, List.all_append, w_t1, ← List.take_append_drop 24 (words1.drop 24), List.all_append, w_t2, ← List.take_append_drop 24 ((words1.drop 24).drop 24), List.all_append, w_t3, ← List.take_append_drop 24 (((words1.drop 24).drop 24).drop 24), List.all_append, w_t4, ← List.take_append_drop 24 ((((words1.drop 24).drop 24).drop 24).drop 24), List.all_append, w_t5, ← List.take_append_drop 24 (((((words1.drop 24).drop 24).drop 24).drop 24).drop 24), List.all_append, w_t6, ← List.take_append_drop 24 ((((((words1.drop 24).drop 24).drop 24).drop 24).drop 24).drop 24), List.all_append, w_t7, w_t8]
  rfl
set_option maxRecDepth 65536 in
theorem w_rest : rest_1_c.before args0 about1 = true := by decide +kernel
set_option maxRecDepth 65536 in
theorem w_case : (Jvm.Cond.and given_1 narrow_1).before args0 about1 = true := by decide +kernel
set_option maxRecDepth 65536 in
theorem w_consts : constsHeld consts_1 about1 := Jvm.Lit.constsHeldB_iff.mp (by decide +kernel)
theorem w_applies : (headSpec (Jvm.Cond.code x code maxLocals ret :: tables_1) room_1).applies x e0.platform about1 = true :=
  (Spec.applies_iff w_frames).mpr ⟨w_running, w_runnable, w_alone, w_named, w_hears, w_ripe, w_room, w_tables⟩
theorem atStart : AtStart classFile x code maxLocals ret World_1 tables_1 room_1 Calls_1 rest_1 Pre_1 launch0 p0 e0 about1 theMethod args0 below0 :=
  ⟨lists_1, trivial, launch0.admits_env _ _ _, launch0.least_env, fairChoices_fair.cas, fairChoices_fair.clock, w_frames, w_args, w_heap, w_applies, ⟨w_consts, trivial⟩, w_rest, w_case⟩
end start1
theorem witness_1 : WitnessClaimed_1 := ⟨start1.p0, start1.e0, start1.about1, start1.theMethod, start1.args0, start1.below0, start1.atStart⟩
end Jvm.Pilot.@@N@@
