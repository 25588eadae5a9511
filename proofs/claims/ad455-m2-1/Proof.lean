import JvmDerived
import JvmDerived.Pilot.@@N@@Statement
import JvmDerived.Pilot.@@N@@Code
set_option linter.unusedVariables false
set_option linter.unusedSimpArgs false
@@BLOCK:NumsL.lean.txt@@
namespace Jvm.RoadKit
open Sem ClassFile Op Lib Jvm.Stand Jvm.Free Jvm.LawKit
section New
variable {p : Program} {l : Launch} {e : Env} {R : Room} {s : State} {m : MethodId} {args : Array Value} {below : List Frame} {meth : Method} {c : Code} {T : State} {locs : List Loc} {cells slots : Nat}
theorem retI (X : Stand p l e R s m args below meth c T locs cells slots) (hx : p.tables.exec = Jvm.exec) {pc : Nat} {Ls : Array Slot} {z : Int32} {rest : List Value} (hret : meth.sig.returnType = some .int) (hd : decode c.code pc = .ok (.ireturn, 1)) {fs : List Frame}
    (hl : ∀ (f : JFrame) (acts : List Action), f.method = m → f.locked = none → f.entered = [] → (doReturn e (T.setTop f) acts (some (.int z))).1 = T.setFrames fs) : Steps p.tables e below (T.setTop (mkF m pc Ls (.int z :: rest))) (T.setFrames fs) := by
  have hm' : T.vm.method? m = some meth := X.method'
  have hn : narrow .int (.int z) = .int z := rfl
  show Steps p.tables e below (T.setTop { method := m, pc := pc, locals := Ls, stack := _ :: rest, locked := none }) _
  jvm_step X.here [X.here.top, hx, hd, hm', hret, hn]
  first | (intro acts; rw [hl _ acts rfl rfl rfl]) | rw [hl _ _ rfl rfl rfl]
  exact Steps.refl _
end New
end Jvm.RoadKit
/- laws to paste: Road.backV (cut by pick.py; bodies as the Statement names them) -/
namespace Jvm.Pilot.@@N@@
namespace StrChars
open Jvm Sem ClassFile Op Lib Jvm.Stand Jvm.Free.XT Jvm.Free.ALB Jvm.Free.JM Jvm.Free
open Jvm.Lib.Cold (StaticIs)
/-- a char array whose places are chars -/
def Ch (a : Addr) (A : Cell) (U : State) : Prop := Arr .char a A U ∧ Typed .char A
theorem Ch.mv {a : Addr} {A : Cell} {U U' : State} (h : Ch a A U) (hal : U.vm.Alike U'.vm) (hh : U'.heap = U.heap) : Ch a A U' := ⟨h.1.mv hal hh, h.2⟩
theorem Ch.keep {a : Addr} {A : Cell} {U U' : State} (h : Ch a A U) (hal : U.vm.Alike U'.vm) (hk : U'.heap[a]? = some A) : Ch a A U' := ⟨h.1.keep hal hk, h.2⟩
/-- what place i of a char[]'s cell holds -/
def cv (A : Cell) (i : Nat) : Int32 := match A.slots[i]? with | some (.int x) => x | _ => 0
theorem Ch.get {a : Addr} {A : Cell} {U : State} (h : Ch a A U) {i : Nat} (hi : i < A.slots.size) : A.slots[i]? = some (.int (cv A i)) := by
  have e := Array.getElem?_eq_getElem hi
  have f := h.2 i _ e
  unfold cv; rw [e]
  generalize A.slots[i] = v at f
  cases v <;> simp [fits] at f ⊢
/-- the byte that i2b leaves of a char -/
def lo8 (x : Int32) : Int32 := x.toInt8.toInt32
theorem fits_lo8 (y : Int32) : fits .byte (.int (lo8 y)) = true := by
  have h1 := y.toInt8.le_toInt
  have h2 := y.toInt8.toInt_lt
  simp only [lo8, fits, Bool.and_eq_true, decide_eq_true_eq, Int32.le_iff_toInt_le, Int8.toInt_toInt32, show (-128 : Int32).toInt = -128 from by decide, show (127 : Int32).toInt = 127 from by decide]
  omega
/-- A' is A but that each place j of lo .. hi - 1 holds f j -/
def Laid (A A' : Cell) (lo hi : Nat) (f : Nat → Value) : Prop := A'.cls = A.cls ∧ A'.vm = A.vm ∧ A'.slots.size = A.slots.size ∧ ∀ i, A'.slots[i]? = if lo ≤ i ∧ i < hi then some (f i) else A.slots[i]?
theorem Laid.zero (A : Cell) (lo : Nat) (f : Nat → Value) : Laid A A lo (lo + 0) f := ⟨rfl, rfl, rfl, fun i => by rw [if_neg (by omega)]⟩
theorem Laid.step {A Ak : Cell} {lo k : Nat} {f : Nat → Value} {v : Value} (h : Laid A Ak lo k f) (hlo : lo ≤ k) (hk : k < Ak.slots.size) (hv : v = f k) : Laid A (Ak.setSlot k v) lo (k + 1) f := by
  refine ⟨h.1, h.2.1, by simpa [Cell.setSlot] using h.2.2.1, fun i => ?_⟩
  by_cases e : k = i
  · subst e; rw [Cell.slots_setSlot_self v hk, if_pos (by omega), hv]
  · rw [Cell.slots_setSlot_ne v e, h.2.2.2 i]
    by_cases q : lo ≤ i ∧ i < k
    · rw [if_pos q, if_pos (by omega)]
    · rw [if_neg q, if_neg (by omega)]
def U16 : String := "java/lang/StringUTF16"
namespace Cmp5
def yN : MethodName := ⟨"java/lang/StringUTF16", "compress", "([CI[BII)I"⟩
abbrev yB : ByteArray := jdk_52_method_21_code
theorem d0 : decode yB 0 = .ok (.iconst 0, 1) := by decide +kernel
theorem d1 : decode yB 1 = .ok (.istore 5, 2) := by decide +kernel
theorem d3 : decode yB 3 = .ok (.iload 5, 2) := by decide +kernel
theorem d5 : decode yB 5 = .ok (.iload 4, 2) := by decide +kernel
theorem d7 : decode yB 7 = .ok (.if_icmp (.ge) 37, 3) := by decide +kernel
theorem d10 : decode yB 10 = .ok (.aload_n 0, 1) := by decide +kernel
theorem d11 : decode yB 11 = .ok (.iload_n 1, 1) := by decide +kernel
theorem d12 : decode yB 12 = .ok (.caload, 1) := by decide +kernel
theorem d13 : decode yB 13 = .ok (.istore 6, 2) := by decide +kernel
theorem d15 : decode yB 15 = .ok (.iload 6, 2) := by decide +kernel
theorem d17 : decode yB 17 = .ok (.sipush 255, 3) := by decide +kernel
theorem d20 : decode yB 20 = .ok (.if_icmp (.le) 6, 3) := by decide +kernel
theorem d26 : decode yB 26 = .ok (.aload_n 2, 1) := by decide +kernel
theorem d27 : decode yB 27 = .ok (.iload_n 3, 1) := by decide +kernel
theorem d28 : decode yB 28 = .ok (.iload 6, 2) := by decide +kernel
theorem d30 : decode yB 30 = .ok (.i2b, 1) := by decide +kernel
theorem d31 : decode yB 31 = .ok (.bastore, 1) := by decide +kernel
theorem d32 : decode yB 32 = .ok (.iinc 1 1, 3) := by decide +kernel
theorem d35 : decode yB 35 = .ok (.iinc 3 1, 3) := by decide +kernel
theorem d38 : decode yB 38 = .ok (.iinc 5 1, 3) := by decide +kernel
theorem d41 : decode yB 41 = .ok (.goto (-38), 3) := by decide +kernel
theorem d44 : decode yB 44 = .ok (.iload 4, 2) := by decide +kernel
theorem d46 : decode yB 46 = .ok (.ireturn, 1) := by decide +kernel
def site : List Cond := []
def tab : Cond := tabOf yN yB 7 (some .int) site
def P (b : Addr) (A : Cell) (d : Addr) (B : Cell) (o q len : Nat) (args : Array Value) (s : State) : Prop := args = #[.ref b, .int (Int32.ofNat o), .ref d, .int (Int32.ofNat q), .int (Int32.ofNat len)] ∧ Ch b A s ∧ Arr .byte d B s ∧ b ≠ d ∧ o + len ≤ A.slots.size ∧ q + len ≤ B.slots.size ∧ ∀ i, i < len → ¬ 255 < cv A (o + i)
def E (b : Addr) (A : Cell) (d : Addr) (B : Cell) (o q len : Nat) (r : Option Value) (s u : State) : Prop := r = some (.int (Int32.ofNat len)) ∧ ∃ B', Put d B' s u ∧ Laid B B' q (q + len) (fun j => Value.int (lo8 (cv A (o + (j - q)))))
/-- no char of the range above 255: len; the places written hold each char's low byte -/
theorem law (l : Launch) (b : Addr) (A : Cell) (d : Addr) (B : Cell) (o q len : Nat) : Law l yN 5 5 0 0 yB 7 (some .int) site (P b A d B o q len) (E b A d B o q len) (copyLocs d q len) 0 0 := by
  refine Law.of_walk (plainFor_of_name (by decide +kernel)) (by decide +kernel) (by decide +kernel) (by decide) (fun _ _ h => by rw [h.1]; rfl) (fun _ U U' hal hh h => ⟨h.1, h.2.1.mv hal hh, h.2.2.1.mv hal hh, h.2.2.2⟩) (fun r U U' V V' h1 hal h2 h => ⟨h.1, h.2.elim fun B' q => ⟨B', q.1.mv h1 h2, q.2⟩⟩) ?_
  intro p e s m args below meth c s₁ X0 hexec hbytes hml hret hlk hnm hown hh0 W hP
  obtain ⟨rfl, hA, hB, hne, l1, l2, hp⟩ := hP
  have c1 : Steps p.tables e below (s₁.setTop (entryFrame m #[.ref b, .int (Int32.ofNat o), .ref d, .int (Int32.ofNat q), .int (Int32.ofNat len)] 7)) (s₁.setTop (mkF m 0 #[.val (.ref b), .val (.int (Int32.ofNat o)), .val (.ref d), .val (.int (Int32.ofNat q)), .val (.int (Int32.ofNat len)), .unset, .unset] [])) := entry rfl
  have hA0 := hA.1.mv X0.warmed.alike hh0
  have hB0 := hB.mv X0.warmed.alike hh0
  have a31 := hA.1.2.2.2
  have c2 : Steps p.tables e below (s₁.setTop (entryFrame m #[.ref b, .int (Int32.ofNat o), .ref d, .int (Int32.ofNat q), .int (Int32.ofNat len)] 7)) (s₁.setTop (mkF m 3 #[.val (.ref b), .val (.int (Int32.ofNat o)), .val (.ref d), .val (.int (Int32.ofNat q)), .val (.int (Int32.ofNat len)), .val (.int 0), .unset] [])) := c1.trans (by
    refine iconstV X0.here hexec rfl 0 (hb hbytes d0) (by decide) ?_
    refine XS.istore X0.here hexec rfl (hb hbytes d1) rfl rfl ?_
    exact Steps.refl _)
  have loop : ∀ (r i : Nat), i + r = len → ∀ (z : Slot), (z = .unset ∨ ∃ w, z = .val w ∧ w.category = 1) → ∀ (Tl : State) (Bk : Cell), Stand p l e { frames := 0, locals := 0, cells := 0, slots := 0 } s m #[.ref b, .int (Int32.ofNat o), .ref d, .int (Int32.ofNat q), .int (Int32.ofNat len)] below meth c Tl ([] ++ copyLocs d q i) 0 0 → Put d Bk s₁ Tl → Laid B Bk q (q + i) (fun j => Value.int (lo8 (cv A (o + (j - q))))) →
      Steps p.tables e below (s₁.setTop (entryFrame m #[.ref b, .int (Int32.ofNat o), .ref d, .int (Int32.ofNat q), .int (Int32.ofNat len)] 7)) (Tl.setTop (mkF m 3 #[.val (.ref b), .val (.int (Int32.ofNat (o + i))), .val (.ref d), .val (.int (Int32.ofNat (q + i))), .val (.int (Int32.ofNat len)), .val (.int (Int32.ofNat i)), z] [])) → ∃ (T' : State) (B' : Cell) (z' : Slot), Stand p l e { frames := 0, locals := 0, cells := 0, slots := 0 } s m #[.ref b, .int (Int32.ofNat o), .ref d, .int (Int32.ofNat q), .int (Int32.ofNat len)] below meth c T' ([] ++ copyLocs d q len) 0 0 ∧ Put d B' s₁ T' ∧ Laid B B' q (q + len) (fun j => Value.int (lo8 (cv A (o + (j - q))))) ∧
      Steps p.tables e below (s₁.setTop (entryFrame m #[.ref b, .int (Int32.ofNat o), .ref d, .int (Int32.ofNat q), .int (Int32.ofNat len)] 7)) (T'.setTop (mkF m 3 #[.val (.ref b), .val (.int (Int32.ofNat (o + len))), .val (.ref d), .val (.int (Int32.ofNat (q + len))), .val (.int (Int32.ofNat len)), .val (.int (Int32.ofNat len)), z'] [])) := by
    intro r
    induction r with
    | zero =>
      intro i hi z hz Tl Bk Xl pl fl cl
      have hil : i = len := by omega
      rw [hil] at Xl fl cl
      exact ⟨Tl, Bk, z, Xl, pl, fl, cl⟩
    | succ r ih =>
      intro i hi z hz Tl Bk Xl pl fl cl
      have all := X0.warmed.alike.symm.trans Xl.warmed.alike
      have hAl := hA0.keep all (pl.other hne hA0.1)
      have hBk := hB0.like all pl.1 fl.1 fl.2.1 fl.2.2.1
      have hlt : q + i < Bk.slots.size := by rw [fl.2.2.1]; omega
      have c3 : Steps p.tables e below (s₁.setTop (entryFrame m #[.ref b, .int (Int32.ofNat o), .ref d, .int (Int32.ofNat q), .int (Int32.ofNat len)] 7)) (Tl.setTop (mkF m 12 #[.val (.ref b), .val (.int (Int32.ofNat (o + i))), .val (.ref d), .val (.int (Int32.ofNat (q + i))), .val (.int (Int32.ofNat len)), .val (.int (Int32.ofNat i)), z] [.int (Int32.ofNat (o + i)), .ref b])) := cl.trans (by
        refine XS.iload Xl.here hexec rfl (hb hbytes d3) rfl ?_
        refine XS.iload Xl.here hexec rfl (hb hbytes d5) rfl ?_
        refine XS.icmpNo Xl.here hexec rfl (hb hbytes d7) rfl (ii_ge_f (lt32 (by omega) (by omega))) ?_
        refine XS.aloadN Xl.here hexec rfl (hb hbytes d10) rfl rfl ?_
        refine XS.iloadN Xl.here hexec rfl (hb hbytes d11) rfl ?_
        exact Steps.refl _)
      have c4 : Steps p.tables e below (s₁.setTop (entryFrame m #[.ref b, .int (Int32.ofNat o), .ref d, .int (Int32.ofNat q), .int (Int32.ofNat len)] 7)) (Tl.setTop (mkF m 13 #[.val (.ref b), .val (.int (Int32.ofNat (o + i))), .val (.ref d), .val (.int (Int32.ofNat (q + i))), .val (.int (Int32.ofNat len)), .val (.int (Int32.ofNat i)), z] [.int (cv A (o + i))])) := c3.trans (by
        refine Xl.aget hexec hAl rfl (hA.get (i := o + i) (by omega)) rfl rfl (hb hbytes d12) ?_
        exact Steps.refl _)
      have c5 : Steps p.tables e below (s₁.setTop (entryFrame m #[.ref b, .int (Int32.ofNat o), .ref d, .int (Int32.ofNat q), .int (Int32.ofNat len)] 7)) (Tl.setTop (mkF m 15 #[.val (.ref b), .val (.int (Int32.ofNat (o + i))), .val (.ref d), .val (.int (Int32.ofNat (q + i))), .val (.int (Int32.ofNat len)), .val (.int (Int32.ofNat i)), .val (.int (cv A (o + i)))] [])) := c4.trans (by
        refine XS.istoreS Xl.here hexec rfl (hb hbytes d13) rfl rfl hz ?_
        exact Steps.refl _)
      have c6 : Steps p.tables e below (s₁.setTop (entryFrame m #[.ref b, .int (Int32.ofNat o), .ref d, .int (Int32.ofNat q), .int (Int32.ofNat len)] 7)) (Tl.setTop (mkF m 31 #[.val (.ref b), .val (.int (Int32.ofNat (o + i))), .val (.ref d), .val (.int (Int32.ofNat (q + i))), .val (.int (Int32.ofNat len)), .val (.int (Int32.ofNat i)), .val (.int (cv A (o + i)))] [.int (lo8 (cv A (o + i))), .int (Int32.ofNat (q + i)), .ref d])) := c5.trans (by
        refine XS.iload Xl.here hexec rfl (hb hbytes d15) rfl ?_
        refine sipushV Xl.here hexec rfl 255 (hb hbytes d17) (by decide) ?_
        refine XS.icmpYes Xl.here hexec rfl (pc0 := 20) rfl (hb hbytes d20) rfl (ii_le_t (hp i (by omega))) (by decide) rfl ?_
        refine XS.aloadN Xl.here hexec rfl (hb hbytes d26) rfl rfl ?_
        refine XS.iloadN Xl.here hexec rfl (hb hbytes d27) rfl ?_
        refine XS.iload Xl.here hexec rfl (hb hbytes d28) rfl ?_
        refine i2b Xl.here hexec rfl (hb hbytes d30) rfl ?_
        exact Steps.refl _)
      obtain ⟨T7, X7, p7, st7⟩ := Xl.aput hexec hBk rfl hlt rfl (fits_lo8 (cv A (o + i))) (g := (mkF m 31 #[.val (.ref b), .val (.int (Int32.ofNat (o + i))), .val (.ref d), .val (.int (Int32.ofNat (q + i))), .val (.int (Int32.ofNat len)), .val (.int (Int32.ofNat i)), .val (.int (cv A (o + i)))] [.int (lo8 (cv A (o + i))), .int (Int32.ofNat (q + i)), .ref d])) rfl (rest := []) rfl (hb hbytes d31)
      have c8 : Steps p.tables e below (s₁.setTop (entryFrame m #[.ref b, .int (Int32.ofNat o), .ref d, .int (Int32.ofNat q), .int (Int32.ofNat len)] 7)) (T7.setTop (mkF m 32 #[.val (.ref b), .val (.int (Int32.ofNat (o + i))), .val (.ref d), .val (.int (Int32.ofNat (q + i))), .val (.int (Int32.ofNat len)), .val (.int (Int32.ofNat i)), .val (.int (cv A (o + i)))] [])) := c6.trans (st7 _ (Steps.refl _))
      have c9 : Steps p.tables e below (s₁.setTop (entryFrame m #[.ref b, .int (Int32.ofNat o), .ref d, .int (Int32.ofNat q), .int (Int32.ofNat len)] 7)) (T7.setTop (mkF m 3 #[.val (.ref b), .val (.int (Int32.ofNat (o + i) + 1)), .val (.ref d), .val (.int (Int32.ofNat (q + i) + 1)), .val (.int (Int32.ofNat len)), .val (.int (Int32.ofNat i + 1)), .val (.int (cv A (o + i)))] [])) := c8.trans (by
        refine iincV X7.here hexec rfl 1 (hb hbytes d32) (by decide) rfl rfl ?_
        refine iincV X7.here hexec rfl 1 (hb hbytes d35) (by decide) rfl rfl ?_
        refine iincV X7.here hexec rfl 1 (hb hbytes d38) (by decide) rfl rfl ?_
        refine XS.goto X7.here hexec rfl (pc0 := 41) rfl (hb hbytes d41) (by decide) rfl ?_
        exact Steps.refl _)
      have c10 : Steps p.tables e below (s₁.setTop (entryFrame m #[.ref b, .int (Int32.ofNat o), .ref d, .int (Int32.ofNat q), .int (Int32.ofNat len)] 7)) (T7.setTop (mkF m 3 #[.val (.ref b), .val (.int (Int32.ofNat (o + (i + 1)))), .val (.ref d), .val (.int (Int32.ofNat (q + (i + 1)))), .val (.int (Int32.ofNat len)), .val (.int (Int32.ofNat (i + 1))), .val (.int (cv A (o + i)))] [])) := by
        have := c9
        rw [succ32, succ32, succ32] at this
        exact this
      exact ih (i + 1) (by omega) _ (Or.inr ⟨_, rfl, rfl⟩) T7 _ (by rw [copyLocs_step, ← List.append_assoc]; exact X7) (pl.trans p7) (fl.step (by omega) hlt (by simp)) c10
  obtain ⟨T9, B9, z9, X9, p9, f9, g9⟩ := loop len 0 (by omega) .unset (Or.inl rfl) s₁ B (by simpa [copyLocs] using X0) ⟨hB0.1, fun _ _ => rfl, rfl⟩ (Laid.zero _ _ _) c2
  have c11 : Steps p.tables e below (s₁.setTop (entryFrame m #[.ref b, .int (Int32.ofNat o), .ref d, .int (Int32.ofNat q), .int (Int32.ofNat len)] 7)) (T9.setTop (mkF m 46 #[.val (.ref b), .val (.int (Int32.ofNat (o + len))), .val (.ref d), .val (.int (Int32.ofNat (q + len))), .val (.int (Int32.ofNat len)), .val (.int (Int32.ofNat len)), z9] [.int (Int32.ofNat len)])) := g9.trans (by
    refine XS.iload X9.here hexec rfl (hb hbytes d3) rfl ?_
    refine XS.iload X9.here hexec rfl (hb hbytes d5) rfl ?_
    refine XS.icmpYes X9.here hexec rfl (pc0 := 7) rfl (hb hbytes d7) rfl (ii_ge_t (nlt32 (by omega) (Nat.le_refl _))) (by decide) rfl ?_
    refine XS.iload X9.here hexec rfl (hb hbytes d44) rfl ?_
    exact Steps.refl _)
  exact ⟨T9, some (.int (Int32.ofNat len)), _, _, _, X9, by simp, rfl, rfl, (fun h => by cases h), ⟨rfl, B9, p9.from hh0, f9⟩, fun fs hl => c11.trans (X9.ireturnOut hexec hret rfl (Or.inl rfl) (hb hbytes d46) hl)⟩
end Cmp5
namespace Cmp3
def yN : MethodName := ⟨"java/lang/StringUTF16", "compress", "([CII)[B"⟩
abbrev yB : ByteArray := jdk_52_method_16_code
theorem d0 : decode yB 0 = .ok (.iload_n 2, 1) := by decide +kernel
theorem d1 : decode yB 1 = .ok (.newarray .byte, 2) := by decide +kernel
theorem d3 : decode yB 3 = .ok (.astore_n 3, 1) := by decide +kernel
theorem d4 : decode yB 4 = .ok (.aload_n 0, 1) := by decide +kernel
theorem d5 : decode yB 5 = .ok (.iload_n 1, 1) := by decide +kernel
theorem d6 : decode yB 6 = .ok (.aload_n 3, 1) := by decide +kernel
theorem d7 : decode yB 7 = .ok (.iconst 0, 1) := by decide +kernel
theorem d8 : decode yB 8 = .ok (.iload_n 2, 1) := by decide +kernel
theorem d9 : decode yB 9 = .ok (.invokestatic 115, 3) := by decide +kernel
theorem d12 : decode yB 12 = .ok (.istore 4, 2) := by decide +kernel
theorem d14 : decode yB 14 = .ok (.iload 4, 2) := by decide +kernel
theorem d16 : decode yB 16 = .ok (.iload_n 2, 1) := by decide +kernel
theorem d17 : decode yB 17 = .ok (.if_icmp (.eq) 40, 3) := by decide +kernel
theorem d57 : decode yB 57 = .ok (.aload_n 3, 1) := by decide +kernel
theorem d58 : decode yB 58 = .ok (.areturn, 1) := by decide +kernel
def site : List Cond := [.arrayClass .byte, Cmp5.tab] ++ staticW U16 115 Cmp5.yN
def tab : Cond := tabOf yN yB 6 (some (.array .byte)) site
def P (b : Addr) (A : Cell) (o len : Nat) (args : Array Value) (s : State) : Prop := args = #[.ref b, .int (Int32.ofNat o), .int (Int32.ofNat len)] ∧ Ch b A s ∧ o + len ≤ A.slots.size ∧ len ≤ 536870912 ∧ ∀ i, i < len → ¬ 255 < cv A (o + i)
def E (b : Addr) (A : Cell) (o len : Nat) (r : Option Value) (s u : State) : Prop := NewArr .byte "[B" len (fun j => .int (lo8 (cv A (o + j)))) r s u ∧ u.heap.size = s.heap.size + 1
/-- no char of the range above 255: a new byte[] of their low bytes -/
theorem law (l : Launch) (b : Addr) (A : Cell) (o len : Nat) : Law l yN 3 3 1 18 yB 6 (some (.array .byte)) site (P b A o len) (E b A o len) [] 1 len := by
  refine Law.of_walk (plainFor_of_name (by decide +kernel)) (by decide +kernel) (by decide +kernel) (by decide) (fun _ _ h => by rw [h.1]; rfl) (fun _ U U' hal hh h => ⟨h.1, h.2.1.mv hal hh, h.2.2⟩) (fun r U U' V V' h1 hal h2 h => ⟨NewArr.mv r U U' V V' h1 hal h2 h.1, by rw [h1, h2]; exact h.2⟩) ?_
  intro p e s m args below meth c s₁ X0 hexec hbytes hml hret hlk hnm hown hh0 W hP
  obtain ⟨rfl, hA, l1, l2, hp⟩ := hP
  have a31 := hA.1.2.2.2
  have c1 : Steps p.tables e below (s₁.setTop (entryFrame m #[.ref b, .int (Int32.ofNat o), .int (Int32.ofNat len)] 6)) (s₁.setTop (mkF m 0 #[.val (.ref b), .val (.int (Int32.ofNat o)), .val (.int (Int32.ofNat len)), .unset, .unset, .unset] [])) := entry rfl
  have c2 : Steps p.tables e below (s₁.setTop (entryFrame m #[.ref b, .int (Int32.ofNat o), .int (Int32.ofNat len)] 6)) (s₁.setTop (mkF m 1 #[.val (.ref b), .val (.int (Int32.ofNat o)), .val (.int (Int32.ofNat len)), .unset, .unset, .unset] [.int (Int32.ofNat len)])) := c1.trans (by
    refine XS.iloadN X0.here hexec rfl (hb hbytes d0) rfl ?_
    exact Steps.refl _)
  obtain ⟨T3, B3, X3, ba3, bs3, bv3, bh3, bf3, st3⟩ := X0.anew hexec (atype := .byte) (wk W (.arrayClass .byte)) rfl (by show len * 1 ≤ _; omega) (by omega) (g := (mkF m 1 #[.val (.ref b), .val (.int (Int32.ofNat o)), .val (.int (Int32.ofNat len)), .unset, .unset, .unset] [.int (Int32.ofNat len)])) rfl (hb hbytes d1) (rest := []) rfl (Nat.le_refl _) (by show 0 + len ≤ len; omega)
  rw [hh0] at ba3 st3
  have kp3 : XT.Kept s T3 := (XT.Kept.of_eq hh0).push bh3
  have hA3 := hA.keep X3.warmed.alike (kp3 _ _ hA.1.1)
  have hne : b ≠ s.heap.size := hA.1.ne
  have c4 : Steps p.tables e below (s₁.setTop (entryFrame m #[.ref b, .int (Int32.ofNat o), .int (Int32.ofNat len)] 6)) (T3.setTop (mkF m 3 #[.val (.ref b), .val (.int (Int32.ofNat o)), .val (.int (Int32.ofNat len)), .unset, .unset, .unset] [.ref s.heap.size])) := c2.trans (st3 _ (Steps.refl _))
  have c5 : Steps p.tables e below (s₁.setTop (entryFrame m #[.ref b, .int (Int32.ofNat o), .int (Int32.ofNat len)] 6)) (T3.setTop (mkF m 9 #[.val (.ref b), .val (.int (Int32.ofNat o)), .val (.int (Int32.ofNat len)), .val (.ref s.heap.size), .unset, .unset] [.int (Int32.ofNat len), .int 0, .ref s.heap.size, .int (Int32.ofNat o), .ref b])) := c4.trans (by
    refine XS.astoreN X3.here hexec rfl (hb hbytes d3) rfl rfl rfl ?_
    refine XS.aloadN X3.here hexec rfl (hb hbytes d4) rfl rfl ?_
    refine XS.iloadN X3.here hexec rfl (hb hbytes d5) rfl ?_
    refine XS.aloadN X3.here hexec rfl (hb hbytes d6) rfl rfl ?_
    refine iconstV X3.here hexec rfl 0 (hb hbytes d7) (by decide) ?_
    refine XS.iloadN X3.here hexec rfl (hb hbytes d8) rfl ?_
    exact Steps.refl _)
  obtain ⟨v6, T6, X6, E6, g6⟩ := X3.callS hexec (Cmp5.law l b A s.heap.size B3 o 0 len) hown (wks W (staticW U16 115 Cmp5.yN)) (wk W Cmp5.tab) (W := 0) (Nat.le_of_ble_eq_true rfl) (Nat.le_of_ble_eq_true rfl) (Nat.le_refl _) (by show 0 + len + 0 ≤ len; omega) (g := (mkF m 9 #[.val (.ref b), .val (.int (Int32.ofNat o)), .val (.int (Int32.ofNat len)), .val (.ref s.heap.size), .unset, .unset] [.int (Int32.ofNat len), .int (Int32.ofNat 0), .ref s.heap.size, .int (Int32.ofNat o), .ref b])) rfl (by rw [hml]; rfl) c5 (argsL := [.ref b, .int (Int32.ofNat o), .ref s.heap.size, .int (Int32.ofNat 0), .int (Int32.ofNat len)]) (rest := []) rfl rfl (by show 2 * 0 + 0 ≤ _; decide) (hb hbytes d9) (⟨rfl, hA3, ba3, hne, l1, by rw [bs3]; simp, hp⟩)
  obtain ⟨rfl, B6, p6, f6⟩ := E6
  have c7 : Steps p.tables e below (s₁.setTop (entryFrame m #[.ref b, .int (Int32.ofNat o), .int (Int32.ofNat len)] 6)) (T6.setTop (mkF m 12 #[.val (.ref b), .val (.int (Int32.ofNat o)), .val (.int (Int32.ofNat len)), .val (.ref s.heap.size), .unset, .unset] [.int (Int32.ofNat len)])) := g6
  have c8 : Steps p.tables e below (s₁.setTop (entryFrame m #[.ref b, .int (Int32.ofNat o), .int (Int32.ofNat len)] 6)) (T6.setTop (mkF m 58 #[.val (.ref b), .val (.int (Int32.ofNat o)), .val (.int (Int32.ofNat len)), .val (.ref s.heap.size), .val (.int (Int32.ofNat len)), .unset] [.ref s.heap.size])) := c7.trans (by
    refine XS.istore X6.here hexec rfl (hb hbytes d12) rfl rfl ?_
    refine XS.iload X6.here hexec rfl (hb hbytes d14) rfl ?_
    refine XS.iloadN X6.here hexec rfl (hb hbytes d16) rfl ?_
    refine XS.icmpYes X6.here hexec rfl (pc0 := 17) rfl (hb hbytes d17) rfl (ii_eq_t rfl) (by decide) rfl ?_
    refine XS.aloadN X6.here hexec rfl (hb hbytes d57) rfl rfl ?_
    exact Steps.refl _)
  have X8 := X6.wide (L' := []) (cells' := 1) (slots' := len) (fun x hx hlt => by
    simp only [List.nil_append, copyLocs, List.mem_map, List.mem_range] at hx
    obtain ⟨i, -, rfl⟩ := hx
    exact absurd hlt (Nat.lt_irrefl _)) (Nat.le_refl _) (by omega)
  exact ⟨T6, some (.ref s.heap.size), _, _, _, X8, rfl, rfl, rfl, (fun h => by cases h), ⟨⟨rfl, B6, ba3.like (X3.warmed.alike.symm.trans X6.warmed.alike) p6.1 f6.1 f6.2.1 f6.2.2.1, f6.2.1.trans bv3, by rw [X6.warmed.alike.findClass, f6.1]; exact bf3, by rw [f6.2.2.1, bs3]; simp, fun j hj => by rw [f6.2.2.2 j, if_pos (by omega)]; rfl, kp3.put p6 (Nat.le_refl _)⟩, by rw [p6.2.2, bh3, hh0]; simp⟩, fun fs hl => c8.trans (X8.areturnOut hexec rfl hret rfl (hb hbytes d58) hl)⟩
end Cmp3
namespace CodL
def yN : MethodName := ⟨"java/lang/StringUTF16", "coderFromArrayLen", "([BI)B"⟩
abbrev yB : ByteArray := jdk_52_method_15_code
theorem d0 : decode yB 0 = .ok (.iload_n 1, 1) := by decide +kernel
theorem d1 : decode yB 1 = .ok (.aload_n 0, 1) := by decide +kernel
theorem d2 : decode yB 2 = .ok (.arraylength, 1) := by decide +kernel
theorem d3 : decode yB 3 = .ok (.isub, 1) := by decide +kernel
theorem d4 : decode yB 4 = .ok (.bipush 31, 2) := by decide +kernel
theorem d6 : decode yB 6 = .ok (.iushr, 1) := by decide +kernel
theorem d7 : decode yB 7 = .ok (.i2b, 1) := by decide +kernel
theorem d8 : decode yB 8 = .ok (.ireturn, 1) := by decide +kernel
def site : List Cond := []
def tab : Cond := tabOf yN yB 2 (some .byte) site
def P (d : Addr) (B : Cell) (args : Array Value) (s : State) : Prop := args = #[.ref d, .int (Int32.ofNat B.slots.size)] ∧ Arr .byte d B s
def E (r : Option Value) (s u : State) : Prop := XT.PureE (some (.int 0)) r s u
/-- an array as long as the number of chars: LATIN1 -/
theorem law (l : Launch) (d : Addr) (B : Cell) : Law l yN 2 2 0 0 yB 2 (some .byte) site (P d B) E [] 0 0 := by
  refine Law.of_walk (plainFor_of_name (by decide +kernel)) (by decide +kernel) (by decide +kernel) (by decide) (fun _ _ h => by rw [h.1]; rfl) (fun _ U U' hal hh h => ⟨h.1, h.2.mv hal hh⟩) (fun r U U' V V' h1 hal h2 h => XT.PureE.mv r U U' V V' h1 hal h2 h) ?_
  intro p e s m args below meth c s₁ X0 hexec hbytes hml hret hlk hnm hown hh0 W hP
  obtain ⟨rfl, hB⟩ := hP
  have hB0 := hB.mv X0.warmed.alike hh0
  have c1 : Steps p.tables e below (s₁.setTop (entryFrame m #[.ref d, .int (Int32.ofNat B.slots.size)] 2)) (s₁.setTop (mkF m 0 #[.val (.ref d), .val (.int (Int32.ofNat B.slots.size))] [])) := entry rfl
  have c2 : Steps p.tables e below (s₁.setTop (entryFrame m #[.ref d, .int (Int32.ofNat B.slots.size)] 2)) (s₁.setTop (mkF m 2 #[.val (.ref d), .val (.int (Int32.ofNat B.slots.size))] [.ref d, .int (Int32.ofNat B.slots.size)])) := c1.trans (by
    refine XS.iloadN X0.here hexec rfl (hb hbytes d0) rfl ?_
    refine XS.aloadN X0.here hexec rfl (hb hbytes d1) rfl rfl ?_
    exact Steps.refl _)
  have c3 : Steps p.tables e below (s₁.setTop (entryFrame m #[.ref d, .int (Int32.ofNat B.slots.size)] 2)) (s₁.setTop (mkF m 8 #[.val (.ref d), .val (.int (Int32.ofNat B.slots.size))] [.int (lo8 (ushr (Int32.ofNat B.slots.size - Int32.ofNat B.slots.size) 31))])) := c2.trans (by
    refine X0.alen hexec hB0 rfl rfl (hb hbytes d2) ?_
    refine XS.isub X0.here hexec rfl (hb hbytes d3) rfl ?_
    refine bipushV X0.here hexec rfl 31 (hb hbytes d4) (by decide) ?_
    refine iushr X0.here hexec rfl (hb hbytes d6) rfl ?_
    refine i2b X0.here hexec rfl (hb hbytes d7) rfl ?_
    exact Steps.refl _)
  have e0 : lo8 (ushr (Int32.ofNat B.slots.size - Int32.ofNat B.slots.size) 31) = 0 := by rw [Int32.sub_self]; decide
  rw [e0] at c3
  exact ⟨s₁, some (.int 0), _, _, _, X0, rfl, rfl, rfl, (fun h => by cases h), ⟨rfl, hh0⟩, fun fs hl => c3.trans (X0.ireturnOut hexec hret rfl (Or.inr (Or.inr (Or.inl rfl))) (hb hbytes d8) hl)⟩
end CodL
/-- the String at a is Latin-1 over a new byte[] (the heap's one new cell): the low bytes of the len chars of A from o on; every cell but a is kept -/
def Got (a : Addr) (D : Cell) (fV fC : Field) (A : Cell) (o len : Nat) (r : Option Value) (s u : State) : Prop := r = none ∧ ∃ D' V : Cell, Blank "java/lang/String" a D' u ∧ Same D D' [fV.slot, fC.slot] ∧ D'.slots[fV.slot]? = some (.ref s.heap.size) ∧ D'.slots[fC.slot]? = some (.int 0) ∧ Arr .byte s.heap.size V u ∧ V.vm = .none ∧ u.vm.findClass "[B" = some V.cls ∧ V.slots.size = len ∧ (∀ j, j < len → V.slots[j]? = some (.int (lo8 (cv A (o + j))))) ∧ (∀ (y : Addr) (c : Cell), y ≠ a → s.heap[y]? = some c → u.heap[y]? = some c) ∧ u.heap.size = s.heap.size + 1
theorem Got.mv {a : Addr} {D A : Cell} {fV fC : Field} {o len : Nat} : ∀ r (U U' V V' : State), U'.heap = U.heap → V.vm.Alike V'.vm → V'.heap = V.heap → Got a D fV fC A o len r U V → Got a D fV fC A o len r U' V' :=
  fun r U U' V V' h1 hal h2 ⟨e0, D', X, a1, a2, a3, a4, a5, a6, a7, a8, a9, a10, a11⟩ => ⟨e0, D', X, a1.mv hal h2, a2, by rw [h1]; exact a3, a4, by rw [h1]; exact a5.mv hal h2, a6, by rw [hal.findClass]; exact a7, a8, a9, by rw [h1, h2]; exact a10, by rw [h1, h2]; exact a11⟩
namespace New4
def yN : MethodName := ⟨"java/lang/String", "<init>", "([CIILjava/lang/Void;)V"⟩
abbrev yB : ByteArray := jdk_42_method_149_code
theorem d0 : decode yB 0 = .ok (.aload_n 0, 1) := by decide +kernel
theorem d1 : decode yB 1 = .ok (.invokespecial 1, 3) := by decide +kernel
theorem d4 : decode yB 4 = .ok (.iload_n 3, 1) := by decide +kernel
theorem d5 : decode yB 5 = .ok (.ifCond (.ne) 22, 3) := by decide +kernel
theorem d27 : decode yB 27 = .ok (.getstatic 38, 3) := by decide +kernel
theorem d30 : decode yB 30 = .ok (.ifCond (.eq) 28, 3) := by decide +kernel
theorem d33 : decode yB 33 = .ok (.aload_n 1, 1) := by decide +kernel
theorem d34 : decode yB 34 = .ok (.iload_n 2, 1) := by decide +kernel
theorem d35 : decode yB 35 = .ok (.iload_n 3, 1) := by decide +kernel
theorem d36 : decode yB 36 = .ok (.invokestatic 177, 3) := by decide +kernel
theorem d39 : decode yB 39 = .ok (.astore 5, 2) := by decide +kernel
theorem d41 : decode yB 41 = .ok (.aload_n 0, 1) := by decide +kernel
theorem d42 : decode yB 42 = .ok (.aload 5, 2) := by decide +kernel
theorem d44 : decode yB 44 = .ok (.iload_n 3, 1) := by decide +kernel
theorem d45 : decode yB 45 = .ok (.invokestatic 47, 3) := by decide +kernel
theorem d48 : decode yB 48 = .ok (.putfield 15, 3) := by decide +kernel
theorem d51 : decode yB 51 = .ok (.aload_n 0, 1) := by decide +kernel
theorem d52 : decode yB 52 = .ok (.aload 5, 2) := by decide +kernel
theorem d54 : decode yB 54 = .ok (.putfield 9, 3) := by decide +kernel
theorem d57 : decode yB 57 = .ok (.return_, 1) := by decide +kernel
def site : List Cond := [.fieldLink "java/lang/String" 38 "java/lang/String" "COMPACT_STRINGS" "Z", Cmp3.tab, CodL.tab, .laysFinal "java/lang/String" "java/lang/String" "value" "[B", .fieldLink "java/lang/String" 9 "java/lang/String" "value" "[B", .laysFinal "java/lang/String" "java/lang/String" "coder" "B", .fieldLink "java/lang/String" 15 "java/lang/String" "coder" "B"] ++ objW "java/lang/String" 1 ++ staticW "java/lang/String" 177 Cmp3.yN ++ staticW "java/lang/String" 47 CodL.yN
def tab : Cond := tabOf yN yB 6 none site
def P (a : Addr) (D : Cell) (fV fC : Field) (b : Addr) (A : Cell) (z : Int32) (o len : Nat) (args : Array Value) (s : State) : Prop := args = #[.ref a, .ref b, .int (Int32.ofNat o), .int (Int32.ofNat len), .null] ∧ Blank "java/lang/String" a D s ∧ Found "java/lang/String" "value" "[B" fV s ∧ Found "java/lang/String" "coder" "B" fC s ∧ Ch b A s ∧ StaticIs s "java/lang/String" "COMPACT_STRINGS" "Z" (.int z) ∧ ¬ z = 0 ∧ 0 < len ∧ o + len ≤ A.slots.size ∧ len ≤ 536870912 ∧ ∀ i, i < len → ¬ 255 < cv A (o + i)
def E (a : Addr) (D : Cell) (fV fC : Field) (A : Cell) (o len : Nat) (r : Option Value) (s u : State) : Prop := Got a D fV fC A o len r s u
/-- len > 0, no char of the range above 255: a Latin-1 String of their low bytes -/
theorem law (l : Launch) (a : Addr) (D : Cell) (fV fC : Field) (b : Addr) (A : Cell) (z : Int32) (o len : Nat) : Law l yN 5 4 2 35 yB 6 none site (P a D fV fC b A z o len) (E a D fV fC A o len) [⟨a, fC.slot⟩, ⟨a, fV.slot⟩] 1 len := by
  refine Law.of_walk (plainFor_of_name (by decide +kernel)) (by decide +kernel) (by decide +kernel) (by decide) (fun _ _ h => by rw [h.1]; rfl) (fun _ U U' hal hh h => ⟨h.1, h.2.1.mv hal hh, h.2.2.1.al hal, h.2.2.2.1.al hal, h.2.2.2.2.1.mv hal hh, h.2.2.2.2.2.1.there hal hh, h.2.2.2.2.2.2⟩) (fun r U U' V V' h1 hal h2 h => Got.mv r U U' V V' h1 hal h2 h) ?_
  intro p e s m args below meth c s₁ X0 hexec hbytes hml hret hlk hnm hown hh0 W hP
  obtain ⟨rfl, hB, f1, f2, hA, s1, hz, l0, l1, l2, hp⟩ := hP
  have a31 := hA.1.2.2.2
  have c1 : Steps p.tables e below (s₁.setTop (entryFrame m #[.ref a, .ref b, .int (Int32.ofNat o), .int (Int32.ofNat len), .null] 6)) (s₁.setTop (mkF m 0 #[.val (.ref a), .val (.ref b), .val (.int (Int32.ofNat o)), .val (.int (Int32.ofNat len)), .val .null, .unset] [])) := entry rfl
  have c2 : Steps p.tables e below (s₁.setTop (entryFrame m #[.ref a, .ref b, .int (Int32.ofNat o), .int (Int32.ofNat len), .null] 6)) (s₁.setTop (mkF m 1 #[.val (.ref a), .val (.ref b), .val (.int (Int32.ofNat o)), .val (.int (Int32.ofNat len)), .val .null, .unset] [.ref a])) := c1.trans (by
    refine XS.aloadN X0.here hexec rfl (hb hbytes d0) rfl rfl ?_
    exact Steps.refl _)
  obtain ⟨T3, X3, q3, st3⟩ := X0.oinit hexec hown (wks W (objW "java/lang/String" 1)) (g := (mkF m 1 #[.val (.ref a), .val (.ref b), .val (.int (Int32.ofNat o)), .val (.int (Int32.ofNat len)), .val .null, .unset] [.ref a])) rfl (by rw [hml]; rfl) (rest := []) rfl (hb hbytes d1) (W := 0) (by show 2 * 0 + 0 ≤ _; decide) (Nat.le_of_ble_eq_true rfl) (Nat.le_of_ble_eq_true rfl)
  have hh3 := q3.trans hh0
  have c4 : Steps p.tables e below (s₁.setTop (entryFrame m #[.ref a, .ref b, .int (Int32.ofNat o), .int (Int32.ofNat len), .null] 6)) (T3.setTop (mkF m 27 #[.val (.ref a), .val (.ref b), .val (.int (Int32.ofNat o)), .val (.int (Int32.ofNat len)), .val .null, .unset] [])) := (c2.trans (st3 _ (Steps.refl _))).trans (by
    refine XS.iloadN X3.here hexec rfl (hb hbytes d4) rfl ?_
    refine XS.ifYes X3.here hexec rfl (pc0 := 5) rfl (hb hbytes d5) rfl (i0_ne_t (nz32 (by omega) l0)) (by decide) rfl ?_
    exact Steps.refl _)
  obtain ⟨T5, X5, q5, st5⟩ := X3.sget hexec hown (wk W (.fieldLink "java/lang/String" 38 "java/lang/String" "COMPACT_STRINGS" "Z")) s1 (fun _ _ h => by rw [hh3]; exact h) (g := (mkF m 27 #[.val (.ref a), .val (.ref b), .val (.int (Int32.ofNat o)), .val (.int (Int32.ofNat len)), .val .null, .unset] [])) rfl (hb hbytes d27)
  have hh5 := q5.trans hh3
  have c6 : Steps p.tables e below (s₁.setTop (entryFrame m #[.ref a, .ref b, .int (Int32.ofNat o), .int (Int32.ofNat len), .null] 6)) (T5.setTop (mkF m 30 #[.val (.ref a), .val (.ref b), .val (.int (Int32.ofNat o)), .val (.int (Int32.ofNat len)), .val .null, .unset] [.int z])) := c4.trans (st5 _ (Steps.refl _))
  have c7 : Steps p.tables e below (s₁.setTop (entryFrame m #[.ref a, .ref b, .int (Int32.ofNat o), .int (Int32.ofNat len), .null] 6)) (T5.setTop (mkF m 36 #[.val (.ref a), .val (.ref b), .val (.int (Int32.ofNat o)), .val (.int (Int32.ofNat len)), .val .null, .unset] [.int (Int32.ofNat len), .int (Int32.ofNat o), .ref b])) := c6.trans (by
    refine XS.ifNo X5.here hexec rfl (hb hbytes d30) rfl (i0_eq_f hz) ?_
    refine XS.aloadN X5.here hexec rfl (hb hbytes d33) rfl rfl ?_
    refine XS.iloadN X5.here hexec rfl (hb hbytes d34) rfl ?_
    refine XS.iloadN X5.here hexec rfl (hb hbytes d35) rfl ?_
    exact Steps.refl _)
  obtain ⟨v8, T8, X8, E8, g8⟩ := X5.callS hexec (Cmp3.law l b A o len) hown (wks W (staticW "java/lang/String" 177 Cmp3.yN)) (wk W Cmp3.tab) (W := 0) (Nat.le_of_ble_eq_true rfl) (Nat.le_of_ble_eq_true rfl) (Nat.le_refl _) (by show 0 + len ≤ len; omega) (g := (mkF m 36 #[.val (.ref a), .val (.ref b), .val (.int (Int32.ofNat o)), .val (.int (Int32.ofNat len)), .val .null, .unset] [.int (Int32.ofNat len), .int (Int32.ofNat o), .ref b])) rfl (by rw [hml]; rfl) c7 (argsL := [.ref b, .int (Int32.ofNat o), .int (Int32.ofNat len)]) (rest := []) rfl rfl (by show 2 * 0 + 0 ≤ _; decide) (hb hbytes d36) (⟨rfl, hA.mv X5.warmed.alike hh5, l1, l2, hp⟩)
  obtain ⟨e8, z8⟩ := E8
  obtain ⟨rfl, N, n1, n2, n3, n4, n5, n6⟩ := NewArr.mv _ T5 s _ _ hh5.symm (Vm.Alike.refl _) rfl e8
  rw [hh5] at z8
  have hB1 := hB.keep X8.warmed.alike (n6 _ _ hB.1)
  have hne : s.heap.size ≠ a := (Nat.ne_of_lt (Array.getElem?_eq_some_iff.mp hB.1).1).symm
  have c9 : Steps p.tables e below (s₁.setTop (entryFrame m #[.ref a, .ref b, .int (Int32.ofNat o), .int (Int32.ofNat len), .null] 6)) (T8.setTop (mkF m 39 #[.val (.ref a), .val (.ref b), .val (.int (Int32.ofNat o)), .val (.int (Int32.ofNat len)), .val .null, .unset] [.ref s.heap.size])) := g8
  have c10 : Steps p.tables e below (s₁.setTop (entryFrame m #[.ref a, .ref b, .int (Int32.ofNat o), .int (Int32.ofNat len), .null] 6)) (T8.setTop (mkF m 45 #[.val (.ref a), .val (.ref b), .val (.int (Int32.ofNat o)), .val (.int (Int32.ofNat len)), .val .null, .val (.ref s.heap.size)] [.int (Int32.ofNat N.slots.size), .ref s.heap.size, .ref a])) := by
    have hc : Steps p.tables e below (s₁.setTop (entryFrame m #[.ref a, .ref b, .int (Int32.ofNat o), .int (Int32.ofNat len), .null] 6)) (T8.setTop (mkF m 45 #[.val (.ref a), .val (.ref b), .val (.int (Int32.ofNat o)), .val (.int (Int32.ofNat len)), .val .null, .val (.ref s.heap.size)] [.int (Int32.ofNat len), .ref s.heap.size, .ref a])) := c9.trans (by
      refine XS.astore X8.here hexec rfl (hb hbytes d39) rfl rfl rfl ?_
      refine XS.aloadN X8.here hexec rfl (hb hbytes d41) rfl rfl ?_
      refine XS.aload X8.here hexec rfl (hb hbytes d42) rfl rfl ?_
      refine XS.iloadN X8.here hexec rfl (hb hbytes d44) rfl ?_
      exact Steps.refl _)
    rw [n4]; exact hc
  obtain ⟨v11, T11, X11, E11, g11⟩ := X8.callS hexec (CodL.law l s.heap.size N) hown (wks W (staticW "java/lang/String" 47 CodL.yN)) (wk W CodL.tab) (W := 1) (Nat.le_of_ble_eq_true rfl) (Nat.le_of_ble_eq_true rfl) (Nat.le_refl _) (by show 0 + len + 0 ≤ len; omega) (g := (mkF m 45 #[.val (.ref a), .val (.ref b), .val (.int (Int32.ofNat o)), .val (.int (Int32.ofNat len)), .val .null, .val (.ref s.heap.size)] [.int (Int32.ofNat N.slots.size), .ref s.heap.size, .ref a])) rfl (by rw [hml]; rfl) c10 (argsL := [.ref s.heap.size, .int (Int32.ofNat N.slots.size)]) (rest := [.ref a]) rfl rfl (by show 2 * 0 + (1 + 0) ≤ _; decide) (hb hbytes d45) (⟨rfl, n1⟩)
  obtain ⟨rfl, q11⟩ := E11
  have hB11 := hB1.mv (X8.warmed.alike.symm.trans X11.warmed.alike) q11
  have c12 : Steps p.tables e below (s₁.setTop (entryFrame m #[.ref a, .ref b, .int (Int32.ofNat o), .int (Int32.ofNat len), .null] 6)) (T11.setTop (mkF m 48 #[.val (.ref a), .val (.ref b), .val (.int (Int32.ofNat o)), .val (.int (Int32.ofNat len)), .val .null, .val (.ref s.heap.size)] [.int 0, .ref a])) := g11
  obtain ⟨T13, X13, p13, bl13, sl13, st13⟩ := X11.finit hexec hown (wk W (.fieldLink "java/lang/String" 15 "java/lang/String" "coder" "B")) (Or.inr ⟨_, (wk W (.laysFinal "java/lang/String" "java/lang/String" "coder" "B"))⟩) (Or.inl ⟨rfl, hnm⟩) f2 (Or.inl rfl) hB11 (t := .byte) (by decide +kernel) rfl (g := (mkF m 48 #[.val (.ref a), .val (.ref b), .val (.int (Int32.ofNat o)), .val (.int (Int32.ofNat len)), .val .null, .val (.ref s.heap.size)] [.int 0, .ref a])) rfl (rest := []) rfl (hb hbytes d48)
  have c14 : Steps p.tables e below (s₁.setTop (entryFrame m #[.ref a, .ref b, .int (Int32.ofNat o), .int (Int32.ofNat len), .null] 6)) (T13.setTop (mkF m 54 #[.val (.ref a), .val (.ref b), .val (.int (Int32.ofNat o)), .val (.int (Int32.ofNat len)), .val .null, .val (.ref s.heap.size)] [.ref s.heap.size, .ref a])) := (c12.trans (st13 _ (Steps.refl _))).trans (by
    refine XS.aloadN X13.here hexec rfl (hb hbytes d51) rfl rfl ?_
    refine XS.aload X13.here hexec rfl (hb hbytes d52) rfl rfl ?_
    exact Steps.refl _)
  obtain ⟨T15, X15, p15, bl15, sl15, st15⟩ := X13.finit hexec hown (wk W (.fieldLink "java/lang/String" 9 "java/lang/String" "value" "[B")) (Or.inr ⟨_, (wk W (.laysFinal "java/lang/String" "java/lang/String" "value" "[B"))⟩) (Or.inl ⟨rfl, hnm⟩) f1 (Or.inl rfl) bl13 (t := (.array .byte)) (by decide +kernel) rfl (g := (mkF m 54 #[.val (.ref a), .val (.ref b), .val (.int (Int32.ofNat o)), .val (.int (Int32.ofNat len)), .val .null, .val (.ref s.heap.size)] [.ref s.heap.size, .ref a])) rfl (rest := []) rfl (hb hbytes d54)
  have c16 : Steps p.tables e below (s₁.setTop (entryFrame m #[.ref a, .ref b, .int (Int32.ofNat o), .int (Int32.ofNat len), .null] 6)) (T15.setTop (mkF m 57 #[.val (.ref a), .val (.ref b), .val (.int (Int32.ofNat o)), .val (.int (Int32.ofNat len)), .val .null, .val (.ref s.heap.size)] [])) := c14.trans (st15 _ (Steps.refl _))
  have ap := apart (Or.inr ⟨_, (wk W (.laysFinal "java/lang/String" "java/lang/String" "value" "[B"))⟩) (Or.inr ⟨_, (wk W (.laysFinal "java/lang/String" "java/lang/String" "coder" "B"))⟩) f1 f2 (t₁ := .array .byte) (t₂ := .byte) (by decide +kernel) (by decide +kernel) (by decide)
  have al := X8.warmed.alike.symm.trans X15.warmed.alike
  have n7 : T11.heap[s.heap.size]? = some N := by rw [q11]; exact n1.1
  exact ⟨T15, none, _, _, _, X15, by simp, rfl, by omega, (fun _ => rfl), ⟨rfl, _, N, bl15, ((Same.refl D _).set _ (by simp)).set _ (by simp), sl15, (Cell.slots_setSlot_ne _ ap).trans sl13, n1.keep al (p15.other hne (p13.other hne n7)), n2, by rw [al.findClass]; exact n3, n4, n5, fun y c h1 h2 => p15.other h1 (p13.other h1 (by rw [q11]; exact n6 y c h2)), by rw [p15.2.2, p13.2.2, q11]; exact z8⟩, fun fs hl => c16.trans (X15.returnOut hexec hret (hb hbytes d57) hl)⟩
end New4
namespace New1
def yN : MethodName := ⟨"java/lang/String", "<init>", "([C)V"⟩
abbrev yB : ByteArray := jdk_42_method_3_code
theorem d0 : decode yB 0 = .ok (.aload_n 0, 1) := by decide +kernel
theorem d1 : decode yB 1 = .ok (.aload_n 1, 1) := by decide +kernel
theorem d2 : decode yB 2 = .ok (.iconst 0, 1) := by decide +kernel
theorem d3 : decode yB 3 = .ok (.aload_n 1, 1) := by decide +kernel
theorem d4 : decode yB 4 = .ok (.arraylength, 1) := by decide +kernel
theorem d5 : decode yB 5 = .ok (.aconst_null, 1) := by decide +kernel
theorem d6 : decode yB 6 = .ok (.invokespecial 27, 3) := by decide +kernel
theorem d9 : decode yB 9 = .ok (.return_, 1) := by decide +kernel
def site : List Cond := [New4.tab] ++ initW "java/lang/String" 27 New4.yN
def tab : Cond := tabOf yN yB 2 none site
def P (a : Addr) (D : Cell) (fV fC : Field) (b : Addr) (A : Cell) (z : Int32) (args : Array Value) (s : State) : Prop := args = #[.ref a, .ref b] ∧ Blank "java/lang/String" a D s ∧ Found "java/lang/String" "value" "[B" fV s ∧ Found "java/lang/String" "coder" "B" fC s ∧ Ch b A s ∧ StaticIs s "java/lang/String" "COMPACT_STRINGS" "Z" (.int z) ∧ ¬ z = 0 ∧ 0 < A.slots.size ∧ A.slots.size ≤ 536870912 ∧ ∀ i, i < A.slots.size → ¬ 255 < cv A i
def E (a : Addr) (D : Cell) (fV fC : Field) (A : Cell) (r : Option Value) (s u : State) : Prop := Got a D fV fC A 0 A.slots.size r s u
/-- new String(chars), not empty, no char above 255: a Latin-1 String of their low bytes -/
theorem law (l : Launch) (a : Addr) (D : Cell) (fV fC : Field) (b : Addr) (A : Cell) (z : Int32) : Law l yN 2 1 3 52 yB 2 none site (P a D fV fC b A z) (E a D fV fC A) [⟨a, fC.slot⟩, ⟨a, fV.slot⟩] 1 A.slots.size := by
  refine Law.of_walk (plainFor_of_name (by decide +kernel)) (by decide +kernel) (by decide +kernel) (by decide) (fun _ _ h => by rw [h.1]; rfl) (fun _ U U' hal hh h => ⟨h.1, h.2.1.mv hal hh, h.2.2.1.al hal, h.2.2.2.1.al hal, h.2.2.2.2.1.mv hal hh, h.2.2.2.2.2.1.there hal hh, h.2.2.2.2.2.2⟩) (fun r U U' V V' h1 hal h2 h => Got.mv r U U' V V' h1 hal h2 h) ?_
  intro p e s m args below meth c s₁ X0 hexec hbytes hml hret hlk hnm hown hh0 W hP
  obtain ⟨rfl, hB, f1, f2, hA, s1, hz, l0, l2, hp⟩ := hP
  have c1 : Steps p.tables e below (s₁.setTop (entryFrame m #[.ref a, .ref b] 2)) (s₁.setTop (mkF m 0 #[.val (.ref a), .val (.ref b)] [])) := entry rfl
  have c2 : Steps p.tables e below (s₁.setTop (entryFrame m #[.ref a, .ref b] 2)) (s₁.setTop (mkF m 6 #[.val (.ref a), .val (.ref b)] [.null, .int (Int32.ofNat A.slots.size), .int 0, .ref b, .ref a])) := c1.trans (by
    refine XS.aloadN X0.here hexec rfl (hb hbytes d0) rfl rfl ?_
    refine XS.aloadN X0.here hexec rfl (hb hbytes d1) rfl rfl ?_
    refine iconstV X0.here hexec rfl 0 (hb hbytes d2) (by decide) ?_
    refine XS.aloadN X0.here hexec rfl (hb hbytes d3) rfl rfl ?_
    refine X0.alen hexec (hA.1.mv X0.warmed.alike hh0) rfl rfl (hb hbytes d4) ?_
    refine XS.aconstNull X0.here hexec rfl (hb hbytes d5) ?_
    exact Steps.refl _)
  obtain ⟨v3, T3, X3, E3, g3⟩ := X0.callN hexec (New4.law l a D fV fC b A z 0 A.slots.size) rfl hown (wks W (initW "java/lang/String" 27 New4.yN)) (W New4.tab (by simp only [site, List.mem_cons, List.mem_append, true_or, or_true])) (W := 0) (Nat.le_of_ble_eq_true rfl) (Nat.le_of_ble_eq_true rfl) (Nat.le_refl _) (by show 0 + A.slots.size ≤ A.slots.size; omega) (g := (mkF m 6 #[.val (.ref a), .val (.ref b)] [.null, .int (Int32.ofNat A.slots.size), .int (Int32.ofNat 0), .ref b, .ref a])) rfl (by rw [hml]; rfl) c2 (argsL := [.ref b, .int (Int32.ofNat 0), .int (Int32.ofNat A.slots.size), .null]) (rest := []) rfl rfl (by show 2 * 0 + 0 ≤ _; decide) (hb hbytes d6) (⟨rfl, hB.mv X0.warmed.alike hh0, f1.al X0.warmed.alike, f2.al X0.warmed.alike, hA.mv X0.warmed.alike hh0, s1.there X0.warmed.alike hh0, hz, l0, by omega, l2, fun i hi => by rw [Nat.zero_add]; exact hp i hi⟩)
  have e0 := Got.mv _ s₁ s _ _ hh0.symm (Vm.Alike.refl _) rfl E3
  obtain rfl := e0.1
  have c4 : Steps p.tables e below (s₁.setTop (entryFrame m #[.ref a, .ref b] 2)) (T3.setTop (mkF m 9 #[.val (.ref a), .val (.ref b)] [])) := g3
  exact ⟨T3, none, _, _, _, X3, by simp, rfl, by omega, (fun _ => rfl), e0, fun fs hl => c4.trans (X3.returnOut hexec hret (hb hbytes d9) hl)⟩
theorem pays {l : Launch} {R : Room} {p : Program} {e : Env} {below : List Frame} {s : State} {sargs : Array Value} {len W : Nat} (a : Addr) (D : Cell) (fV fC : Field) (b : Addr) (A : Cell) (z : Int32) (htab : tab.before sargs s = true) (hfr : 4 ≤ R.frames) (hlo : W + 65 ≤ R.locals) :
    Back l R p e below s sargs yN len W (fun A₁ a₁ => A₁.cells + 1 ≤ R.cells ∧ A₁.slots + A.slots.size ≤ R.slots ∧ P a D fV fC b A z a₁ A₁.U) (fun A₁ _ v₁ B₁ => E a D fV fC A v₁ A₁.U B₁.U ∧ B₁.locs = A₁.locs ++ [⟨a, fC.slot⟩, ⟨a, fV.slot⟩] ∧ B₁.cells = A₁.cells + 1 ∧ B₁.slots = A₁.slots + A.slots.size) :=
  (law l a D fV fC b A z).pays htab hfr (by omega)
end New1
end StrChars
namespace StrChars.Road
open Jvm Sem ClassFile Op Lib Jvm.Stand Jvm.Free Jvm.Free.XT
open Jvm.Lib.Cold (StaticIs)
abbrev ST : String := "java/lang/String"
/-- every table word that New1's law asks, flat -/
abbrev words : List Jvm.Cond := [.code New1.yN New1.yB 2 none, .initialized ST, .methodLink ST 27 New4.yN, .instanceMethod New4.yN,
  .code New4.yN New4.yB 6 none, .fieldLink ST 38 ST "COMPACT_STRINGS" "Z", .laysFinal ST ST "value" "[B", .fieldLink ST 9 ST "value" "[B", .laysFinal ST ST "coder" "B", .fieldLink ST 15 ST "coder" "B",
  .methodLink ST 1 Lib.objectInit, .instanceMethod Lib.objectInit, .code Lib.objectInit ⟨#[0xb1]⟩ 1 none, .methodLink ST 177 Cmp3.yN, .static Cmp3.yN, .methodLink ST 47 CodL.yN, .static CodL.yN,
  .code Cmp3.yN Cmp3.yB 6 (some (.array .byte)), .initialized U16, .arrayClass .byte, .methodLink U16 115 Cmp5.yN, .static Cmp5.yN, .code Cmp5.yN Cmp5.yB 7 (some .int), .code CodL.yN CodL.yB 2 (some .byte)]
theorem tab_of {a : Array Value} {s : State} (h : ∀ w ∈ words, w.before a s = true) : New1.tab.before a s = true := by
  have h5 : Cmp5.tab.before a s = true := unparts (wk h (.code Cmp5.yN Cmp5.yB 7 (some .int))) (wks h (.initialized Cmp5.yN.cls :: Cmp5.site))
  have hc : CodL.tab.before a s = true := unparts (wk h (.code CodL.yN CodL.yB 2 (some .byte))) (wks h (.initialized CodL.yN.cls :: CodL.site))
  have q5 : ∀ w ∈ Cmp5.tab :: words, w.before a s = true := fun w hw => (List.mem_cons.mp hw).elim (fun e => e ▸ h5) (h w)
  have h3 : Cmp3.tab.before a s = true := unparts (wk q5 (.code Cmp3.yN Cmp3.yB 6 (some (.array .byte)))) (wks q5 (.initialized Cmp3.yN.cls :: Cmp3.site))
  have q3 : ∀ w ∈ Cmp3.tab :: CodL.tab :: words, w.before a s = true := fun w hw => (List.mem_cons.mp hw).elim (fun e => e ▸ h3) fun hw => (List.mem_cons.mp hw).elim (fun e => e ▸ hc) (h w)
  have h4 : New4.tab.before a s = true := unparts (wk q3 (.code New4.yN New4.yB 6 none)) (wks q3 (.initialized New4.yN.cls :: New4.site))
  have q4 : ∀ w ∈ New4.tab :: words, w.before a s = true := fun w hw => (List.mem_cons.mp hw).elim (fun e => e ▸ h4) (h w)
  exact unparts (wk q4 (.code New1.yN New1.yB 2 none)) (wks q4 (.initialized New1.yN.cls :: New1.site))
/-- the words ride from the start Z to the walk's own state -/
theorem moved {Z s : State} {a0 args : Array Value} (hZ : Z.Warmed39 s.vm) (hw : ∀ d ∈ words, d.before a0 Z = true) : ∀ d ∈ words, d.before args s = true := fun d hd => by
  have q := hw d hd
  have t : ∀ d ∈ words, d = .arrayClass .byte ∨ (d.onTables && d.keepsFace) = true := by decide +kernel
  rcases t d hd with rfl | t
  · exact RoadKit.mvA hZ q
  · exact RoadKit.mv hZ q t
/-- WHAT COMES BACK, over the tables of the start Z: h the heap at the call, h' behind it -/
def Q (Z : State) (x : Addr) (A : Cell) (h : Heap) (v : Option Value) (h' : Heap) (L : List Loc) : Prop := v = none ∧ (∀ y ∈ L, y.base = x) ∧ RoadKit.Keep h h' [x] ∧ h'.size = h.size + 1 ∧ RoadKit.Exa Z h' x ST ∧ RoadKit.Fld Z h' x ST "value" "[B" (.ref h.size) ∧ RoadKit.Fld Z h' x ST "coder" "B" (.int 0) ∧
  (∃ V : Cell, RoadKit.Arr Z h' h.size V .byte ∧ V.vm = .none ∧ Z.vm.findClass "[B" = some V.cls ∧ V.slots.size = A.slots.size ∧ ∀ j, j < A.slots.size → V.slots[j]? = some (.int (lo8 (cv A j)))) ∧
  ∀ (O n d : String) (w : Value), RoadKit.Fld Z h x O n d w → RoadKit.slotOf Z O n d ≠ RoadKit.slotOf Z ST "value" "[B" → RoadKit.slotOf Z O n d ≠ RoadKit.slotOf Z ST "coder" "B" → RoadKit.Fld Z h' x O n d w
/-- **new String(chars) AT A CALL, IN THE ROAD'S FORM**: for specialBack behind newO: x the fresh String, b the char[] with the cell A -/
theorem back {p : Program} {l : Launch} {e : Env} {R : Room} {s : State} {args : Array Value} {below : List Frame} {len W : Nat} {Z : State} {a0 : Array Value} {h : Heap} (hZ : Z.Warmed39 s.vm) (hw : ∀ d ∈ words, d.before a0 Z = true) {kI : Nat} (wi : (Jvm.Cond.instantiable ST kI).before a0 Z = true)
    {x b : Addr} {A : Cell} {z : Int32} {v0 c0 : Value} (E : RoadKit.Exa Z h x ST) (V : RoadKit.Fld Z h x ST "value" "[B" v0) (C : RoadKit.Fld Z h x ST "coder" "B" c0) (K : RoadKit.Arr Z h b A .char) (hty : Typed .char A) (S : RoadKit.Sta Z h ST "COMPACT_STRINGS" "Z" (.int z)) (hz : ¬ z = 0)
    (l0 : 0 < A.slots.size) (l2 : A.slots.size ≤ 536870912) (hp : ∀ i, i < A.slots.size → ¬ 255 < cv A i) (hfr : 4 ≤ R.frames) (hlo : W + 65 ≤ R.locals) :
    Back l R p e below s args New1.yN len W (fun P a => a = #[.ref x, .ref b] ∧ P.U.heap = h ∧ P.cells + 1 ≤ R.cells ∧ P.slots + A.slots.size ≤ R.slots)
      (fun P _ v B => ∃ L, Q Z x A h v B.U.heap L ∧ B.locs = P.locs ++ L ∧ B.cells = P.cells + 1 ∧ B.slots = P.slots + A.slots.size) := by
  intro m meth c P g ig mk a X hg hsize hdg hW hn hp'
  obtain ⟨rfl, rfl, r1, r2⟩ := hp'
  have al : Z.vm.Alike P.U.vm := hZ.alike.trans X.warmed.alike
  obtain ⟨D, cfV, kV, iV, fV, hD, gV, stV, knV, obV, asV, slV⟩ := id V
  obtain ⟨D', cfC, kC, iC, fC, hD', gC, stC, -, -, asC, slC⟩ := id C
  cases hD.symm.trans hD'
  obtain ⟨D2, kD, e1, e2, e3, e4, e5⟩ := id E
  cases hD.symm.trans e1
  obtain ⟨c2, k2, i1, i2, i3, -⟩ := Cond.instantiable_spec wi
  cases e2.symm.trans i1
  cases e3.symm.trans i2
  obtain ⟨kU, u1, u2⟩ := al.2.2 _ _ e3
  have hB : Blank ST x D P.U := ⟨hD, ⟨knV, fun q hq => by rw [hq] at obV; cases obV⟩, by rw [al.findClass]; exact e2, kU, u1, by rw [u2]; exact i3, by rw [u2]; exact e5 i3⟩
  have F1 : Found ST "value" "[B" fV P.U := ⟨SBG.found_only al ⟨cfV, kV, iV, gV⟩, stV⟩
  have F2 : Found ST "coder" "B" fC P.U := ⟨SBG.found_only al ⟨cfC, kC, iC, gC⟩, stC⟩
  have hA : Ch b A P.U := ⟨⟨K.1, State.isArrayOf_alike al K.2.1, K.2.2, by omega⟩, hty⟩
  have hS : StaticIs P.U ST "COMPACT_STRINGS" "Z" (.int z) := by
    obtain ⟨cfS, iS, kS, fS, st, cS, t1, t2, t3, t4, t5, t6, t7⟩ := S
    exact StaticIs.there (s := { Z with heap := P.U.heap }) ⟨cfS, iS, kS, fS, st, cS, t1, t2, t3, t4, t5, (fun q => by rw [q] at t6; cases t6), t7⟩ al rfl
  obtain ⟨v, B, X', ⟨⟨hv, E', V', q1, q2, q3, q4, q5, q6, q7, q8, q9, q10, q11⟩, hl, hc, hs⟩, st⟩ := New1.pays x D fV fC b A z (tab_of (moved hZ hw)) hfr hlo m meth c P g ig mk _ X hg hsize hdg hW hn ⟨r1, r2, rfl, hB, F1, F2, hA, hS, hz, l0, l2, hp⟩
  have al' : Z.vm.Alike B.U.vm := hZ.alike.trans X'.warmed.alike
  have hsz : E'.slots.size = D.slots.size := by
    obtain ⟨-, -, -, kB, w1, w2, w3⟩ := q1
    obtain ⟨kB', y1, y2⟩ := al'.2.2 _ _ e3
    rw [q2.2.1] at w1
    cases w1.symm.trans y1
    rw [w3, e5 i3, y2]
  refine ⟨v, B, X', ⟨_, ⟨hv, ?_, ⟨by omega, fun y cy hy hn' => q10 y cy (by simpa using hn') hy, fun y cy hy => ?_⟩, q11, ⟨E', _, q1.1, by rw [q2.2.1]; exact e2, by rw [q2.2.1]; exact e3, by rw [q2.1]; exact obV, fun _ => by rw [hsz]; exact e5 i3⟩,
    ⟨E', cfV, kV, iV, fV, q1.1, gV, stV, by rw [q2.1]; exact knV, by rw [q2.1]; exact obV, by rw [q2.2.1]; exact asV, q3⟩, ⟨E', cfC, kC, iC, fC, q1.1, gC, stC, by rw [q2.1]; exact knV, by rw [q2.1]; exact obV, by rw [q2.2.1]; exact asC, q4⟩,
    ⟨V', ⟨q5.1, State.isArrayOf_alike al'.symm q5.2.1, q5.2.2.1⟩, q6, by rw [← al'.findClass]; exact q7, q8, fun j hj => by have := q9 j hj; rwa [Nat.zero_add] at this⟩, fun O n d w F n1 n2 => ?_⟩, hl, hc, hs⟩, st⟩
  · intro y hy
    simp only [List.mem_cons, List.not_mem_nil, or_false] at hy
    rcases hy with rfl | rfl <;> rfl
  · by_cases q : y = x
    · subst q
      cases hD.symm.trans hy
      exact ⟨E', q1.1, q2.2.1, q2.1, hsz⟩
    · exact ⟨cy, q10 y cy q hy, rfl, rfl, rfl⟩
  · obtain ⟨D3, cf, k, i, f, g1, g2, g3, g4, g5, g6, g7⟩ := F
    cases hD.symm.trans g1
    simp only [RoadKit.slotOf, g2, gV, gC, Option.map_some, Option.getD_some] at n1 n2
    exact ⟨E', cf, k, i, f, q1.1, g2, g3, by rw [q2.1]; exact g4, by rw [q2.1]; exact g5, by rw [q2.2.1]; exact g6, by rw [q2.2.2 f.slot (by simp [n1, n2])]; exact g7⟩
end StrChars.Road
namespace StrChars.Road
open Jvm Sem ClassFile Op Lib Jvm.Stand Jvm.Free Jvm.Free.XT
/-- WHAT COMES BACK, the byte[] as a list of values -/
def QA (Z : State) (x : Addr) (zn : Int32) (cs : List Int32) (h : Heap) (v : Option Value) (h' : Heap) (L : List Loc) : Prop := v = none ∧ (∀ y ∈ L, y.base = x) ∧ RoadKit.Keep h h' [x] ∧ h'.size = h.size + 1 ∧ RoadKit.Exa Z h' x ST ∧ RoadKit.Fld Z h' x ST "value" "[B" (.ref h.size) ∧ RoadKit.Fld Z h' x ST "coder" "B" (.int 0) ∧
  (∃ kb, Z.vm.findClass "[B" = some kb ∧ RoadKit.Arv Z h' h.size kb .byte zn (cs.map fun c => .int (lo8 c)) (.int 0)) ∧
  ∀ (O n d : String) (w : Value), RoadKit.Fld Z h x O n d w → RoadKit.slotOf Z O n d ≠ RoadKit.slotOf Z ST "value" "[B" → RoadKit.slotOf Z O n d ≠ RoadKit.slotOf Z ST "coder" "B" → RoadKit.Fld Z h' x O n d w
/-- **new String(chars) AT A CALL, THE ARRAYS AS LISTS**: the char[] at b holds cs, not empty, no char above 255 -/
theorem backArv {p : Program} {l : Launch} {e : Env} {R : Room} {s : State} {args : Array Value} {below : List Frame} {len W : Nat} {Z : State} {a0 : Array Value} {h : Heap} (hZ : Z.Warmed39 s.vm) (hw : ∀ d ∈ words, d.before a0 Z = true) {kI : Nat} (wi : (Jvm.Cond.instantiable ST kI).before a0 Z = true)
    {x b : Addr} {k : ClassId} {zn z : Int32} {cs : List Int32} {dv v0 c0 : Value} (E : RoadKit.Exa Z h x ST) (V : RoadKit.Fld Z h x ST "value" "[B" v0) (C : RoadKit.Fld Z h x ST "coder" "B" c0) (K : RoadKit.Arv Z h b k .char zn (cs.map Value.int) dv) (S : RoadKit.Sta Z h ST "COMPACT_STRINGS" "Z" (.int z)) (hz : ¬ z = 0)
    (hlen : zn.toNatClampNeg = cs.length) (h0 : 0 < cs.length) (hbig : cs.length ≤ 536870912) (hall : ∀ c ∈ cs, ¬ 255 < c) (hfr : 4 ≤ R.frames) (hlo : W + 65 ≤ R.locals) :
    Back l R p e below s args New1.yN len W (fun P a => a = #[.ref x, .ref b] ∧ P.U.heap = h ∧ P.cells + 1 ≤ R.cells ∧ P.slots + cs.length ≤ R.slots)
      (fun P _ v B => ∃ L, QA Z x zn cs h v B.U.heap L ∧ B.locs = P.locs ++ L ∧ B.cells = P.cells + 1 ∧ B.slots = P.slots + cs.length) := by
  obtain ⟨A, K1, K2, K3, K4, K5, K6⟩ := K
  have e : A.slots.size = cs.length := K3.trans hlen
  have hat : ∀ (i : Nat) (hi : i < cs.length), A.slots[i]? = some (.int cs[i]) := fun i hi => by rw [K5 i (by omega)]; simp [List.getD_eq_getElem?_getD, hi]
  have hcv : ∀ (i : Nat) (hi : i < cs.length), cv A i = cs[i] := fun i hi => by unfold cv; rw [hat i hi]
  have hty : Typed .char A := fun i v hv => by
    have hi : i < A.slots.size := (Array.getElem?_eq_some_iff.mp hv).1
    have q := K5 i hi
    rw [hv] at q
    rw [Option.some.inj q]
    exact K6 i hi
  refine Back.mono (back hZ hw wi E V C K1 hty S hz (by omega) (by omega) (fun i hi => by rw [hcv i (by omega)]; exact hall _ (List.getElem_mem _)) hfr hlo) (fun P a hp => ⟨hp.1, hp.2.1, hp.2.2.1, by rw [e]; exact hp.2.2.2⟩) (fun P a v B hp hq => ?_)
  obtain ⟨L, ⟨q1, q2, q3, q4, q5, q6, q7, ⟨V', v1, v2, v3, v4, v5⟩, q9⟩, hl, hc, hs⟩ := hq
  refine ⟨L, ⟨q1, q2, q3, q4, q5, q6, q7, ⟨V'.cls, v3, V', v1, rfl, by rw [v4, e, hlen], K4, fun i hi => ?_, fun i hi => ?_⟩, q9⟩, hl, hc, by rw [hs, e]⟩
  · have hi' : i < cs.length := by omega
    rw [v5 i (by omega), hcv i hi']; simp [List.getD_eq_getElem?_getD, hi']
  · have hi' : i < cs.length := by omega
    simp only [List.getD_eq_getElem?_getD, List.getElem?_map, List.getElem?_eq_getElem hi', Option.map_some, Option.getD_some]
    exact fits_lo8 _
end StrChars.Road
namespace StrChars.Road
open Jvm Sem ClassFile Op Lib Jvm.Stand Jvm.Free Jvm.Free.XT
/-- WHAT COMES BACK, in the writer's own shape -/
def QV (Z : State) (x : Addr) (N : Int32) (bs : List Int32) (h : Heap) (n0 : Nat) (v : Option Value) (h' : Heap) (L : List Loc) : Prop := v = none ∧ RoadKit.Fr n0 L ∧ RoadKit.Keep h h' [x] ∧ RoadKit.Exa Z h' x ST ∧ RoadKit.Fld Z h' x ST "coder" "B" (.int 0) ∧
  ∃ (t : Addr) (kb : ClassId), n0 ≤ t ∧ h.size ≤ t ∧ ¬ t = x ∧ RoadKit.Fld Z h' x ST "value" "[B" (.ref t) ∧ RoadKit.Arv Z h' t kb .byte N (bs.map Value.int) (.int 0)
/-- **new String(chars) AT A CALL, FOR THE WRITER**: a char[] of n known ints, each 0 to 255 -/
theorem backV {p : Program} {l : Launch} {e : Env} {R : Room} {s : State} {args : Array Value} {below : List Frame} {len W : Nat} {Z : State} {a0 : Array Value} {h : Heap} (hZ : Z.Warmed39 s.vm) (hw : ∀ d ∈ words, d.before a0 Z = true) {kI : Nat} (wi : (Jvm.Cond.instantiable ST kI).before a0 Z = true)
    {x b : Addr} {kC : ClassId} {cs bs : List Int32} {d v0 c0 : Value} {z N : Int32} {n n0 : Nat} (hx0 : n0 ≤ x) (hh0 : n0 ≤ h.size) (E : RoadKit.Exa Z h x ST) (V : RoadKit.Fld Z h x ST "value" "[B" v0) (C : RoadKit.Fld Z h x ST "coder" "B" c0) (K : RoadKit.Arv Z h b kC .char N (cs.map Value.int) d) (S : RoadKit.Sta Z h ST "COMPACT_STRINGS" "Z" (.int z)) (hz : ¬ z = 0)
    (hn : cs.length = n) (hN : N = Int32.ofNat n) (l0 : 0 < n) (l2 : n ≤ 4000) (hp : ∀ c ∈ cs, ¬ c < 0 ∧ ¬ (255 : Int32) < c) (hb : bs = cs.map (fun c => c.toInt8.toInt32)) (hfr : 4 ≤ R.frames) (hlo : W + 65 ≤ R.locals) :
    Back l R p e below s args (⟨"java/lang/String", "<init>", "([C)V"⟩ : MethodName) len W (fun P a => a = #[.ref x, .ref b] ∧ P.U.heap = h ∧ P.cells + 1 ≤ R.cells ∧ P.slots + n ≤ R.slots)
      (fun P _ v B => ∃ L, QV Z x N bs h n0 v B.U.heap L ∧ B.locs = P.locs ++ L ∧ B.cells = P.cells + 1 ∧ B.slots = P.slots + n) := by
  subst hn hN hb
  refine Back.mono (backArv hZ hw wi E V C K S hz (n32 (by omega)) l0 (by omega) (fun c hc => (hp c hc).2) hfr hlo) (fun P a hp => hp) (fun P a v B hp hq => ?_)
  obtain ⟨L, ⟨q1, q2, q3, q4, q5, q6, q7, ⟨kb, v1, v2⟩, q9⟩, hl, hc, hs⟩ := hq
  exact ⟨L, ⟨q1, fun y hy => by rw [q2 y hy]; exact hx0, q3, q5, q7, h.size, kb, hh0, Nat.le_refl _, Nat.ne_of_gt E.lt, q6, by rw [List.map_map]; exact v2⟩, hl, hc, hs⟩
end StrChars.Road
end Jvm.Pilot.@@N@@
namespace Jvm.Pilot.@@N@@
open Jvm Jvm.ClassFile Sem Op Lib Jvm.Free Jvm.Stand Jvm.LawKit Jvm.RoadKit Bundle Jvm.Pilot.@@N@@.Jvm.D
theorem tw {a0 : Array Value} {Z : State} (hw : ∀ d ∈ tables_1, d.before a0 Z = true) (i : Nat) {d : Jvm.Cond} (h : tables_1[i]? = some d) : d.before a0 Z = true := hw d (List.mem_of_getElem? h)
theorem own_i8 (x : Int32) : (x.toInt8.toInt32).toInt8.toInt32 = x.toInt8.toInt32 := by rw [Int8.toInt8_toInt32]
theorem own_byte (x : Int32) : ¬ (((x &&& (255 : Int32)).toUInt32.toUInt16.toUInt32.toInt32).toUInt32.toUInt16.toUInt32.toInt32) < 0 ∧ ¬ (255 : Int32) < (((x &&& (255 : Int32)).toUInt32.toUInt16.toUInt32.toInt32).toUInt32.toUInt16.toUInt32.toInt32) := by
  rw [i2c_mask x, i2c_mask x]
  have e1 : (x &&& (255 : Int32)).toInt = x.toInt % 2 ^ 8 := Jvm.Kit.i32_mask x _ (k := 8) (by decide) (by decide)
  have h0 : (0 : Int32).toInt = 0 := by decide
  have h5 : (255 : Int32).toInt = 255 := by decide
  constructor
  · intro h; rw [Int32.lt_iff_toInt_lt] at h; omega
  · intro h; rw [Int32.lt_iff_toInt_lt] at h; omega
theorem own_byte1 (x : Int32) : ¬ ((x &&& (255 : Int32)).toUInt32.toUInt16.toUInt32.toInt32) < 0 ∧ ¬ (255 : Int32) < ((x &&& (255 : Int32)).toUInt32.toUInt16.toUInt32.toInt32) := by
  have h := own_byte x
  rw [i2c_mask x, i2c_mask x] at h
  rw [i2c_mask x]; exact h
theorem own_fld {args : Array Value} {s : State} {t : Term} {a : Addr} {C n d : String} {k : Int32} (ev : t.eval args s none [] s = some (.ref a)) (h : (Jvm.Cond.eq (Jvm.Term.field t C n d) (Jvm.Term.int k)).value args s none s [] = some true) : Fld s s.heap a C n d (.int k) := by
  obtain ⟨x, y, ex, ey, k1, k2⟩ := cmp_v (Or.inl h)
  have ey' : y = .int k := Option.some.inj (ey.symm.trans (Term.int_eval k))
  subst ey'
  obtain ⟨z, rfl⟩ := k2
  have hz : z = k := gotT (Cond.eq_ints ex ey) h
  subst hz
  exact Fld.start ((fld_at ev).symm.trans ex)
theorem d2_0 : decode jdk_43_method_3_code 0 = .ok (.iload_n 0, 1) := by decide +kernel
theorem d2_1 : decode jdk_43_method_3_code 1 = .ok (.sipush 255, 3) := by decide +kernel
theorem d2_4 : decode jdk_43_method_3_code 4 = .ok (.if_icmp .gt 7, 3) := by decide +kernel
theorem d2_7 : decode jdk_43_method_3_code 7 = .ok (.iconst 1, 1) := by decide +kernel
theorem d2_8 : decode jdk_43_method_3_code 8 = .ok (.goto 4, 3) := by decide +kernel
theorem d2_12 : decode jdk_43_method_3_code 12 = .ok (.ireturn, 1) := by decide +kernel
theorem pn_2 : plainName "java/lang/StringLatin1" = true := by first | (simp [plainName, overriddenIn]; done) | decide +kernel
theorem ef_rm2 (m : MethodId) (y0 : Int32) : entryFrame m #[(.int y0)] 1 = (mkF m 0 #[.val (.int y0)] []) := by first | (simp [entryFrame, mkF, argsToLocals, Value.category]; done) | rfl
def Q_rm2 (Z : State) (p1 : Int32) (h0 : Heap) (n0 : Nat) (v : Option Value) (h : Heap) (L : List Loc) : Prop := v = some (.int (1 : Int32)) ∧ Fr n0 L ∧ h = h0
set_option maxRecDepth 65536 in
set_option maxHeartbeats 40000000 in
theorem rm2 (l : Launch) (Z : State) (a0 : Array Value) (hw : ∀ d ∈ tables_1, d.before a0 Z = true) (ws : List Jvm.Cond) (p1 : Int32) (h0 : Heap) (n0 : Nat) (O0 : Old Z n0 h0) (hp : ¬ ((255 : Int32) < p1)) :
    MetFree l (⟨"java/lang/StringLatin1", "canEncode", "(C)Z"⟩ : MethodName) (head1 (Jvm.Cond.code (⟨"java/lang/StringLatin1", "canEncode", "(C)Z"⟩ : MethodName) jdk_43_method_3_code 1 (some .boolean) :: ws) ({ frames := 0, cells := 0, slots := 0, locals := 0 } : Room)) (fun a U => a = #[(.int p1)] ∧ Z.Warmed39 U.vm ∧ U.heap = h0) (fun _ _ _ _ _ => True) (fun _ U o U' => ∃ v L, o = .returned v ∧ Q_rm2 Z p1 h0 n0 v U'.heap L ∧ FrameEnd U o U' L ({ frames := 0, cells := 0, slots := 0, locals := 0 } : Room).cells ({ frames := 0, cells := 0, slots := 0, locals := 0 } : Room).slots) := by
  refine MetFree.of_bodySF (plainFor_of_name pn_2) hisR ?_
  intro p e s m args below meth c s₁ Bd hml0 hP hK
  obtain ⟨rfl, hZ, hh⟩ := hP
  have hx := Bd.exec
  have hby := Bd.bytes
  have hml : c.maxLocals = 1 := hml0
  have hown : s.vm.findClass "java/lang/StringLatin1" = some m.cls := findClass_of_methodNamed Bd.named
  have hnm := (name_of_methodNamed Bd.named Bd.method).1
  have X0 : Stand p l e ({ frames := 0, cells := 0, slots := 0, locals := 0 } : Room) s m #[(.int p1)] below meth c s₁ [] 0 0 := Stand.of_body Bd
  have e0 : s₁.heap = h0 := by rw [← hh, Bd.state]; rfl
  have N0 := Fr.nil n0
  have hn0 : n0 ≤ h0.size := O0.1 ▸ O0.2.1
  have pre0 : ∀ t, Steps p.tables e below (s₁.setTop (mkF m 0 #[.val (.int p1)] [])) t → Steps p.tables e below (s₁.setTop (entryFrame m #[(.int p1)] 1)) t := fun t k => castTop (ef_rm2 m p1) k
  obtain ⟨fs, hr, hrun, hended, hW, hsame⟩ := X0.leave (v := some (.int (1 : Int32))) (fun h => by rw [Bd.returns] at h; cases h)
  refine ⟨_, _, pre0 _ ?_, hrun, hended, _, _, rfl, ?_, ⟨_, rfl⟩, hW, hsame.mono (by decide) (by decide)⟩
  · skip
    show Steps p.tables e below (s₁.setTop (mkF m 0 #[.val (.int p1)] [])) _
    refine XS.iloadN X0.here hx rfl (hb hby d2_0) rfl ?_
    show Steps p.tables e below (s₁.setTop (mkF m 1 #[.val (.int p1)] [(.int p1)])) _
    refine XS.sipush X0.here hx rfl (hb hby d2_1) ?_
    show Steps p.tables e below (s₁.setTop (mkF m 4 #[.val (.int p1)] [(.int (255 : Int32)), (.int p1)])) _
    refine XS.icmpNo X0.here hx rfl (hb hby d2_4) rfl (flt (hp : ¬ ((255 : Int32) < p1))).2.2.1 ?_
    show Steps p.tables e below (s₁.setTop (mkF m 7 #[.val (.int p1)] [])) _
    refine XS.iconst X0.here hx rfl (hb hby d2_7) ?_
    show Steps p.tables e below (s₁.setTop (mkF m 8 #[.val (.int p1)] [(.int (1 : Int32))])) _
    refine XS.goto X0.here hx rfl (pc0 := 8) (pc' := 12) rfl (hb hby d2_8) (by decide) (by decide) ?_
    show Steps p.tables e below (s₁.setTop (mkF m 12 #[.val (.int p1)] [(.int (1 : Int32))])) _
    exact retN X0 hx (t := .boolean) Bd.returns (by simp) (hb hby d2_12) hr
  · show Q_rm2 Z p1 h0 n0 _ s₁.heap _
    rw [e0]
    exact ⟨rfl, N0, rfl⟩
theorem d3_0 : decode jdk_43_method_46_code 0 = .ok (.iconst 1, 1) := by decide +kernel
theorem d3_1 : decode jdk_43_method_46_code 1 = .ok (.newarray .byte, 2) := by decide +kernel
theorem d3_3 : decode jdk_43_method_46_code 3 = .ok (.dup, 1) := by decide +kernel
theorem d3_4 : decode jdk_43_method_46_code 4 = .ok (.iconst 0, 1) := by decide +kernel
theorem d3_5 : decode jdk_43_method_46_code 5 = .ok (.iload_n 0, 1) := by decide +kernel
theorem d3_6 : decode jdk_43_method_46_code 6 = .ok (.i2b, 1) := by decide +kernel
theorem d3_7 : decode jdk_43_method_46_code 7 = .ok (.bastore, 1) := by decide +kernel
theorem d3_8 : decode jdk_43_method_46_code 8 = .ok (.areturn, 1) := by decide +kernel
theorem pn_3 : plainName "java/lang/StringLatin1" = true := by first | (simp [plainName, overriddenIn]; done) | decide +kernel
theorem ef_rm3 (m : MethodId) (y0 : Int32) : entryFrame m #[(.int y0)] 1 = (mkF m 0 #[.val (.int y0)] []) := by first | (simp [entryFrame, mkF, argsToLocals, Value.category]; done) | rfl
def Q_rm3 (Z : State) (p1 : Int32) (h0 : Heap) (n0 : Nat) (v : Option Value) (h : Heap) (L : List Loc) : Prop := ∃ (t : Addr) (kb : ClassId), v = some (.ref t) ∧ Fr n0 L ∧ Keep h0 h [] ∧ h0.size ≤ t ∧ Arv Z h t kb .byte (1 : Int32) [(.int (p1.toInt8.toInt32))] (.int (0 : Int32))
set_option maxRecDepth 65536 in
set_option maxHeartbeats 40000000 in
theorem rm3 (l : Launch) (Z : State) (a0 : Array Value) (hw : ∀ d ∈ tables_1, d.before a0 Z = true) (ws : List Jvm.Cond) (p1 : Int32) (h0 : Heap) (n0 : Nat) (O0 : Old Z n0 h0) :
    MetFree l (⟨"java/lang/StringLatin1", "toBytes", "(C)[B"⟩ : MethodName) (head1 (Jvm.Cond.code (⟨"java/lang/StringLatin1", "toBytes", "(C)[B"⟩ : MethodName) jdk_43_method_46_code 1 (some (.array .byte)) :: ws) ({ frames := 0, cells := 1, slots := 1, locals := 0 } : Room)) (fun a U => a = #[(.int p1)] ∧ Z.Warmed39 U.vm ∧ U.heap = h0) (fun _ _ _ _ _ => True) (fun _ U o U' => ∃ v L, o = .returned v ∧ Q_rm3 Z p1 h0 n0 v U'.heap L ∧ FrameEnd U o U' L ({ frames := 0, cells := 1, slots := 1, locals := 0 } : Room).cells ({ frames := 0, cells := 1, slots := 1, locals := 0 } : Room).slots) := by
  refine MetFree.of_bodySF (plainFor_of_name pn_3) hisR ?_
  intro p e s m args below meth c s₁ Bd hml0 hP hK
  obtain ⟨rfl, hZ, hh⟩ := hP
  have hx := Bd.exec
  have hby := Bd.bytes
  have hml : c.maxLocals = 1 := hml0
  have hown : s.vm.findClass "java/lang/StringLatin1" = some m.cls := findClass_of_methodNamed Bd.named
  have hnm := (name_of_methodNamed Bd.named Bd.method).1
  have X0 : Stand p l e ({ frames := 0, cells := 1, slots := 1, locals := 0 } : Room) s m #[(.int p1)] below meth c s₁ [] 0 0 := Stand.of_body Bd
  have e0 : s₁.heap = h0 := by rw [← hh, Bd.state]; rfl
  have N0 := Fr.nil n0
  have hn0 : n0 ≤ h0.size := O0.1 ▸ O0.2.1
  have pre0 : ∀ t, Steps p.tables e below (s₁.setTop (mkF m 0 #[.val (.int p1)] [])) t → Steps p.tables e below (s₁.setTop (entryFrame m #[(.int p1)] 1)) t := fun t k => castTop (ef_rm3 m p1) k
  obtain ⟨T1, h1, k1, X1, e1, E1, A1, st1⟩ := newP X0 hx hZ (tw hw 14 rfl) e0 (g := (mkF m 1 #[.val (.int p1)] [(.int (1 : Int32))])) rfl (hb hby d3_1) rfl (by decide) (cap := 1) (by decide) (by decide) (by decide) (by decide)
  obtain ⟨b1, g1⟩ : ∃ z, z = h0.size := ⟨_, rfl⟩
  rw [← g1] at A1 st1
  have V1 : Arv Z h1 b1 k1 .byte (1 : Int32) [(.int (0 : Int32))] (.int (0 : Int32)) := (Arv.new A1 (by decide)).pad (pad_rep [] (.int (0 : Int32)) 1)
  have lt1 : @LT.lt Nat _ b1 h1.size := V1.lt
  have K1 : Keep h0 h1 [] := (Keep.refl _ _).ext E1
  have sz1_K1 := K1.1
  obtain ⟨cl2, Ar2, q2, S2, Nn2, H2, G2⟩ := V1
  obtain ⟨T3, h3, X3, e3, W3, st3⟩ := stB X1 hx hZ e1 Ar2 (j := (0 : Int32)) (inb_of S2 ⟨by decide, by decide⟩) (g := (mkF m 7 #[.val (.int p1)] [(.int (p1.toInt8.toInt32)), (.int (0 : Int32)), (.ref b1), (.ref b1)])) rfl rfl (hb hby d3_7)
  rw [show nar .byte (p1.toInt8.toInt32) = (p1.toInt8.toInt32) from own_i8 _] at W3
  have V3 : Arv Z h3 b1 k1 .byte (1 : Int32) [(.int (p1.toInt8.toInt32))] (.int (0 : Int32)) := Arv.set Ar2 q2 S2 Nn2 H2 G2 (fits_nar_byte _) W3 0 rfl (Nat.le_of_ble_eq_true rfl)
  have K3 := Keep.of_wr W3
  have N3 := Fr.snoc X3 N0 (by omega : @LE.le Nat _ n0 b1)
  have sz2_K3 := K3.1
  have KC4 : Keep h0 h1 [] := (Keep.refl h0 []).trans K1 (all0)
  have KC5 : Keep h0 h3 [] := KC4.trans K3 (allS (Or.inr (by omega)) (all0))
  obtain ⟨fs, hr, hrun, hended, hW, hsame⟩ := X3.leave (v := some (.ref b1)) (fun h => by rw [Bd.returns] at h; cases h)
  refine ⟨_, _, pre0 _ ?_, hrun, hended, _, _, rfl, ?_, ⟨_, rfl⟩, hW, hsame.mono (by decide) (by decide)⟩
  · skip
    show Steps p.tables e below (s₁.setTop (mkF m 0 #[.val (.int p1)] [])) _
    refine XS.iconst X0.here hx rfl (hb hby d3_0) ?_
    show Steps p.tables e below (s₁.setTop (mkF m 1 #[.val (.int p1)] [(.int (1 : Int32))])) _
    refine st1 _ ?_
    show Steps p.tables e below (T1.setTop (mkF m 3 #[.val (.int p1)] [(.ref b1)])) _
    refine XS.dup X1.here hx rfl (hb hby d3_3) rfl rfl ?_
    show Steps p.tables e below (T1.setTop (mkF m 4 #[.val (.int p1)] [(.ref b1), (.ref b1)])) _
    refine XS.iconst X1.here hx rfl (hb hby d3_4) ?_
    show Steps p.tables e below (T1.setTop (mkF m 5 #[.val (.int p1)] [(.int (0 : Int32)), (.ref b1), (.ref b1)])) _
    refine XS.iloadN X1.here hx rfl (hb hby d3_5) rfl ?_
    show Steps p.tables e below (T1.setTop (mkF m 6 #[.val (.int p1)] [(.int p1), (.int (0 : Int32)), (.ref b1), (.ref b1)])) _
    refine XS.i2b X1.here hx rfl (hb hby d3_6) rfl ?_
    show Steps p.tables e below (T1.setTop (mkF m 7 #[.val (.int p1)] [(.int (p1.toInt8.toInt32)), (.int (0 : Int32)), (.ref b1), (.ref b1)])) _
    refine st3 _ ?_
    show Steps p.tables e below (T3.setTop (mkF m 8 #[.val (.int p1)] [(.ref b1)])) _
    exact X3.areturnOut hx rfl Bd.returns rfl (hb hby d3_8) hr
  · show Q_rm3 Z p1 h0 n0 _ T3.heap _
    rw [e3]
    exact ⟨_, _, rfl, N3, KC5, (by omega), V3⟩
theorem d4_0 : decode jdk_42_method_151_code 0 = .ok (.aload_n 0, 1) := by decide +kernel
theorem d4_1 : decode jdk_42_method_151_code 1 = .ok (.invokespecial 1, 3) := by decide +kernel
theorem d4_4 : decode jdk_42_method_151_code 4 = .ok (.aload_n 0, 1) := by decide +kernel
theorem d4_5 : decode jdk_42_method_151_code 5 = .ok (.aload_n 1, 1) := by decide +kernel
theorem d4_6 : decode jdk_42_method_151_code 6 = .ok (.putfield 9, 3) := by decide +kernel
theorem d4_9 : decode jdk_42_method_151_code 9 = .ok (.aload_n 0, 1) := by decide +kernel
theorem d4_10 : decode jdk_42_method_151_code 10 = .ok (.iload_n 2, 1) := by decide +kernel
theorem d4_11 : decode jdk_42_method_151_code 11 = .ok (.putfield 15, 3) := by decide +kernel
theorem d4_14 : decode jdk_42_method_151_code 14 = .ok (.return_, 1) := by decide +kernel
theorem pn_4 : plainName "java/lang/String" = true := by first | (simp [plainName, overriddenIn]; done) | decide +kernel
theorem ef_rm4 (m : MethodId) (y0 : Addr) (y1 : Addr) : entryFrame m #[(.ref y0), (.ref y1), (.int (0 : Int32))] 3 = (mkF m 0 #[.val (.ref y0), .val (.ref y1), .val (.int (0 : Int32))] []) := by first | (simp [entryFrame, mkF, argsToLocals, Value.category]; done) | rfl
def Q_rm4 (Z : State) (a1 : Addr) (a2 : Addr) (h0 : Heap) (n0 : Nat) (v : Option Value) (h : Heap) (L : List Loc) : Prop := v = none ∧ Fr n0 L ∧ Keep h0 h [a1] ∧ Exa Z h a1 "java/lang/String" ∧ Fld Z h a1 "java/lang/String" "value" "[B" (.ref a2) ∧ Fld Z h a1 "java/lang/String" "coder" "B" (.int (0 : Int32))
set_option maxRecDepth 65536 in
set_option maxHeartbeats 40000000 in
theorem rm4 (l : Launch) (Z : State) (a0 : Array Value) (hw : ∀ d ∈ tables_1, d.before a0 Z = true) (ws : List Jvm.Cond) (a1 : Addr) (a2 : Addr) (h0 : Heap) (n0 : Nat) (O0 : Old Z n0 h0) (g1 : n0 ≤ a1) (E1 : Exa Z h0 a1 "java/lang/String") (F1 : Fld Z h0 a1 "java/lang/String" "value" "[B" .null) (F2 : Fld Z h0 a1 "java/lang/String" "coder" "B" (.int (0 : Int32))) :
    MetFree l (⟨"java/lang/String", "<init>", "([BB)V"⟩ : MethodName) (head1 (Jvm.Cond.code (⟨"java/lang/String", "<init>", "([BB)V"⟩ : MethodName) jdk_42_method_151_code 3 none :: ws) ({ frames := 1, cells := 0, slots := 0, locals := 12 } : Room)) (fun a U => a = #[(.ref a1), (.ref a2), (.int (0 : Int32))] ∧ Z.Warmed39 U.vm ∧ U.heap = h0) (fun _ _ _ _ _ => True) (fun _ U o U' => ∃ v L, o = .returned v ∧ Q_rm4 Z a1 a2 h0 n0 v U'.heap L ∧ FrameEnd U o U' L ({ frames := 1, cells := 0, slots := 0, locals := 12 } : Room).cells ({ frames := 1, cells := 0, slots := 0, locals := 12 } : Room).slots) := by
  refine MetFree.of_bodySF (plainFor_of_name pn_4) hisR ?_
  intro p e s m args below meth c s₁ Bd hml0 hP hK
  obtain ⟨rfl, hZ, hh⟩ := hP
  have hx := Bd.exec
  have hby := Bd.bytes
  have hml : c.maxLocals = 3 := hml0
  have hown : s.vm.findClass "java/lang/String" = some m.cls := findClass_of_methodNamed Bd.named
  have hnm := (name_of_methodNamed Bd.named Bd.method).1
  have X0 : Stand p l e ({ frames := 1, cells := 0, slots := 0, locals := 12 } : Room) s m #[(.ref a1), (.ref a2), (.int (0 : Int32))] below meth c s₁ [] 0 0 := Stand.of_body Bd
  have e0 : s₁.heap = h0 := by rw [← hh, Bd.state]; rfl
  have N0 := Fr.nil n0
  have hn0 : n0 ≤ h0.size := O0.1 ▸ O0.2.1
  have pre0 : ∀ t, Steps p.tables e below (s₁.setTop (mkF m 0 #[.val (.ref a1), .val (.ref a2), .val (.int (0 : Int32))] [])) t → Steps p.tables e below (s₁.setTop (entryFrame m #[(.ref a1), (.ref a2), (.int (0 : Int32))] 3)) t := fun t k => castTop (ef_rm4 m a1 a2) k
  have lt_a1 : @LT.lt Nat _ a1 h0.size := E1.lt
  obtain ⟨T1, X1, e1, st1⟩ := initO X0 hx hZ hown (tw hw 19 rfl) (tw hw 20 rfl) (tw hw 21 rfl) e0 (g := (mkF m 1 #[.val (.ref a1), .val (.ref a2), .val (.int (0 : Int32))] [(.ref a1)])) rfl (by rw [hml]; rfl) rfl (hb hby d4_1) (by decide) (W := 0) (by show 2 * 0 + _ ≤ _; exact Nat.le_of_eq rfl) (by decide)
  obtain ⟨T2, h2, X2, e2, W2, st2⟩ := putF X1 hx hZ hown (host := "") (Or.inl (tw hw 22 rfl)) Via.refl e1 F1 E1 (Or.inr ⟨(tw hw 23 rfl), rfl, hnm⟩) (tw hw 10 rfl) (ty := (.array .byte)) (by decide) rfl rfl (g := (mkF m 6 #[.val (.ref a1), .val (.ref a2), .val (.int (0 : Int32))] [(.ref a2), (.ref a1)])) rfl rfl (hb hby d4_6)
  have K2 := Keep.of_wr W2
  have Fw2 := Fld.same W2 F1
  have N2 := Fr.snoc X2 N0 (by omega : @LE.le Nat _ n0 a1)
  have sz1_K2 := K2.1
  have C3 := E1.keep K2
  have C4 := Fld.other W2 F2 (Or.inr (slot_ne (Or.inr (tw hw 25 rfl)) (Or.inr (tw hw 23 rfl)) (by decide) (t := .byte) (t' := (.array .byte)) (by decide) (by decide)))
  obtain ⟨T5, h5, X5, e5, W5, st5⟩ := putFN X2 hx hZ hown (tw hw 24 rfl) Via.refl e2 C4 C3 (Or.inr ⟨(tw hw 25 rfl), rfl, hnm⟩) (tw hw 10 rfl) (ty := .byte) (v' := (.int (0 : Int32))) (by decide) rfl rfl (g := (mkF m 11 #[.val (.ref a1), .val (.ref a2), .val (.int (0 : Int32))] [(.int (0 : Int32)), (.ref a1)])) rfl rfl (hb hby d4_11)
  have K5 := Keep.of_wr W5
  have Fw5 := Fld.same W5 C4
  have N5 := Fr.snoc X5 N2 (by omega : @LE.le Nat _ n0 a1)
  have sz2_K5 := K5.1
  have KC6 : Keep h0 h2 [a1] := (Keep.refl h0 [a1]).trans K2 (allS (Or.inl (List.mem_of_getElem? (i := 0) rfl)) (all0))
  have KC7 : Keep h0 h5 [a1] := KC6.trans K5 (allS (Or.inl (List.mem_of_getElem? (i := 0) rfl)) (all0))
  have C8 := C3.keep K5
  have C9 := Fld.other W5 Fw2 (Or.inr (slot_ne (Or.inr (tw hw 23 rfl)) (Or.inr (tw hw 25 rfl)) (by decide) (t := (.array .byte)) (t' := .byte) (by decide) (by decide)))
  obtain ⟨fs, hr, hrun, hended, hW, hsame⟩ := X5.leave (v := none) (fun _ => rfl)
  refine ⟨_, _, pre0 _ ?_, hrun, hended, _, _, rfl, ?_, ⟨_, rfl⟩, hW, hsame.mono (by decide) (by decide)⟩
  · skip
    show Steps p.tables e below (s₁.setTop (mkF m 0 #[.val (.ref a1), .val (.ref a2), .val (.int (0 : Int32))] [])) _
    refine XS.aloadN X0.here hx rfl (hb hby d4_0) rfl rfl ?_
    show Steps p.tables e below (s₁.setTop (mkF m 1 #[.val (.ref a1), .val (.ref a2), .val (.int (0 : Int32))] [(.ref a1)])) _
    refine st1 _ ?_
    show Steps p.tables e below (T1.setTop (mkF m 4 #[.val (.ref a1), .val (.ref a2), .val (.int (0 : Int32))] [])) _
    refine XS.aloadN X1.here hx rfl (hb hby d4_4) rfl rfl ?_
    show Steps p.tables e below (T1.setTop (mkF m 5 #[.val (.ref a1), .val (.ref a2), .val (.int (0 : Int32))] [(.ref a1)])) _
    refine XS.aloadN X1.here hx rfl (hb hby d4_5) rfl rfl ?_
    show Steps p.tables e below (T1.setTop (mkF m 6 #[.val (.ref a1), .val (.ref a2), .val (.int (0 : Int32))] [(.ref a2), (.ref a1)])) _
    refine st2 _ ?_
    show Steps p.tables e below (T2.setTop (mkF m 9 #[.val (.ref a1), .val (.ref a2), .val (.int (0 : Int32))] [])) _
    refine XS.aloadN X2.here hx rfl (hb hby d4_9) rfl rfl ?_
    show Steps p.tables e below (T2.setTop (mkF m 10 #[.val (.ref a1), .val (.ref a2), .val (.int (0 : Int32))] [(.ref a1)])) _
    refine XS.iloadN X2.here hx rfl (hb hby d4_10) rfl ?_
    show Steps p.tables e below (T2.setTop (mkF m 11 #[.val (.ref a1), .val (.ref a2), .val (.int (0 : Int32))] [(.int (0 : Int32)), (.ref a1)])) _
    refine st5 _ ?_
    show Steps p.tables e below (T5.setTop (mkF m 14 #[.val (.ref a1), .val (.ref a2), .val (.int (0 : Int32))] [])) _
    exact X5.returnOut hx Bd.returns (hb hby d4_14) hr
  · show Q_rm4 Z a1 a2 h0 n0 _ T5.heap _
    rw [e5]
    exact ⟨rfl, N5, KC7, C8, C9, Fw5⟩
theorem d1_0 : decode jdk_42_method_139_code 0 = .ok (.getstatic 38, 3) := by decide +kernel
theorem d1_3 : decode jdk_42_method_139_code 3 = .ok (.ifCond .eq 23, 3) := by decide +kernel
theorem d1_6 : decode jdk_42_method_139_code 6 = .ok (.iload_n 0, 1) := by decide +kernel
theorem d1_7 : decode jdk_42_method_139_code 7 = .ok (.invokestatic 1015, 3) := by decide +kernel
theorem d1_10 : decode jdk_42_method_139_code 10 = .ok (.ifCond .eq 16, 3) := by decide +kernel
theorem d1_13 : decode jdk_42_method_139_code 13 = .ok (.new 10, 3) := by decide +kernel
theorem d1_16 : decode jdk_42_method_139_code 16 = .ok (.dup, 1) := by decide +kernel
theorem d1_17 : decode jdk_42_method_139_code 17 = .ok (.iload_n 0, 1) := by decide +kernel
theorem d1_18 : decode jdk_42_method_139_code 18 = .ok (.invokestatic 1018, 3) := by decide +kernel
theorem d1_21 : decode jdk_42_method_139_code 21 = .ok (.iconst 0, 1) := by decide +kernel
theorem d1_22 : decode jdk_42_method_139_code 22 = .ok (.invokespecial 209, 3) := by decide +kernel
theorem d1_25 : decode jdk_42_method_139_code 25 = .ok (.areturn, 1) := by decide +kernel
theorem pn_1 : plainName "java/lang/String" = true := by first | (simp [plainName, overriddenIn]; done) | decide +kernel
theorem pd_1 : parseMethodDescriptor "(C)Z" = some ⟨[.char], some .boolean⟩ := by decide +kernel
theorem pd_2 : parseMethodDescriptor "(C)[B" = some ⟨[.char], some (.array .byte)⟩ := by decide +kernel
theorem pd_3 : parseMethodDescriptor "([BB)V" = some ⟨[(.array .byte), .byte], none⟩ := by decide +kernel
theorem ef_rm1 (m : MethodId) (y0 : Int32) : entryFrame m #[(.int y0)] 1 = (mkF m 0 #[.val (.int y0)] []) := by first | (simp [entryFrame, mkF, argsToLocals, Value.category]; done) | rfl
def Q_rm1 (Z : State) (p1 : Int32) (cs : Int32) (h0 : Heap) (n0 : Nat) (v : Option Value) (h : Heap) (L : List Loc) : Prop := ∃ (x t : Addr) (kb : ClassId), v = some (.ref x) ∧ Fr n0 L ∧ Keep h0 h [] ∧ h0.size ≤ x ∧ h0.size ≤ t ∧ @Ne Nat t x ∧ Exa Z h x "java/lang/String" ∧ Fld Z h x "java/lang/String" "coder" "B" (.int (0 : Int32)) ∧ Fld Z h x "java/lang/String" "value" "[B" (.ref t) ∧ Arv Z h t kb .byte (1 : Int32) [(.int (p1.toInt8.toInt32))] (.int (0 : Int32))
set_option maxRecDepth 65536 in
set_option maxHeartbeats 40000000 in
theorem rm1 (l : Launch) (Z : State) (a0 : Array Value) (hw : ∀ d ∈ tables_1, d.before a0 Z = true) (ws : List Jvm.Cond) (p1 : Int32) (cs : Int32) (h0 : Heap) (n0 : Nat) (O0 : Old Z n0 h0) (S_CS : Sta Z Z.heap "java/lang/String" "COMPACT_STRINGS" "Z" (.int cs)) (c_CS : ¬ (cs = (0 : Int32))) (hp : ¬ ((255 : Int32) < p1)) :
    MetFree l (⟨"java/lang/String", "valueOf", "(C)Ljava/lang/String;"⟩ : MethodName) (head1 (Jvm.Cond.code (⟨"java/lang/String", "valueOf", "(C)Ljava/lang/String;"⟩ : MethodName) jdk_42_method_139_code 1 (some (.object "java/lang/String")) :: ws) ({ frames := 2, cells := 2, slots := 5, locals := 40 } : Room)) (fun a U => a = #[(.int p1)] ∧ Z.Warmed39 U.vm ∧ U.heap = h0) (fun _ _ _ _ _ => True) (fun _ U o U' => ∃ v L, o = .returned v ∧ Q_rm1 Z p1 cs h0 n0 v U'.heap L ∧ FrameEnd U o U' L ({ frames := 2, cells := 2, slots := 5, locals := 40 } : Room).cells ({ frames := 2, cells := 2, slots := 5, locals := 40 } : Room).slots) := by
  refine MetFree.of_bodySF (plainFor_of_name pn_1) hisR ?_
  intro p e s m args below meth c s₁ Bd hml0 hP hK
  obtain ⟨rfl, hZ, hh⟩ := hP
  have hx := Bd.exec
  have hby := Bd.bytes
  have hml : c.maxLocals = 1 := hml0
  have hown : s.vm.findClass "java/lang/String" = some m.cls := findClass_of_methodNamed Bd.named
  have hnm := (name_of_methodNamed Bd.named Bd.method).1
  have X0 : Stand p l e ({ frames := 2, cells := 2, slots := 5, locals := 40 } : Room) s m #[(.int p1)] below meth c s₁ [] 0 0 := Stand.of_body Bd
  have e0 : s₁.heap = h0 := by rw [← hh, Bd.state]; rfl
  have N0 := Fr.nil n0
  have hn0 : n0 ≤ h0.size := O0.1 ▸ O0.2.1
  have pre0 : ∀ t, Steps p.tables e below (s₁.setTop (mkF m 0 #[.val (.int p1)] [])) t → Steps p.tables e below (s₁.setTop (entryFrame m #[(.int p1)] 1)) t := fun t k => castTop (ef_rm1 m p1) k
  obtain ⟨T1, X1, e1, st1⟩ := getS2 X0 hx hZ hown (host := "") (Or.inl (tw hw 4 rfl)) Via.refl e0 (Sta.ext O0.2 S_CS) (g := (mkF m 0 #[.val (.int p1)] [])) rfl (hb hby d1_0)
  obtain ⟨_, _, ⟨T2, L2, k2, n2⟩, -, X2, ⟨Lc2, hQ2, l2, y2, z2⟩, st2⟩ := Jvm.LawKit.callS X1 hx (y := (⟨"java/lang/StringLatin1", "canEncode", "(C)Z"⟩ : MethodName)) hown (mvT hZ (tw hw 5 rfl)) (mvT hZ (tw hw 6 rfl)) (mvT hZ (tw hw 7 rfl)) (mvT hZ (tw hw 8 rfl)) (by decide) (backOf (W := 0) (rm2 l Z a0 hw [] p1  h0 n0 O0 hp) hZ (tw hw 8 rfl) (tw hw 7 rfl) (by decide) (by decide)) (g := (mkF m 7 #[.val (.int p1)] [(.int p1)])) rfl (by rw [hml]; rfl) (argsL := [(.int p1)]) (rest := []) (lenOf pd_1 rfl) rfl (by show 2 * 0 + _ ≤ _; exact Nat.le_of_eq rfl) (hb hby d1_7) (fun _ _ => ⟨rfl, e1, (by decide : 0 + 0 ≤ _), (by decide : 0 + 0 ≤ _)⟩)
  dsimp only [Pt.U, Pt.locs, Pt.cells, Pt.slots] at X2 l2 y2 z2 st2 hQ2
  subst l2 y2 z2
  obtain ⟨rfl, N2q, H2⟩ := hQ2
  have N2 := Fr.app N0 N2q
  obtain ⟨T3, h3, X3, e3, E3, A3, D3, -, st3⟩ := newO X2 hx hZ hown (tw hw 9 rfl) (tw hw 10 rfl) (tw hw 2 rfl) H2 (g := (mkF m 13 #[.val (.int p1)] [])) rfl (hb hby d1_13) (by decide) (by decide)
  obtain ⟨b3, g3⟩ : ∃ z, z = h0.size := ⟨_, rfl⟩
  rw [← g3] at A3 D3 st3
  have lt3 : @LT.lt Nat _ b3 h3.size := A3.lt
  have K3 : Keep h0 h3 [] := (Keep.refl _ _).ext E3
  have sz1_K3 := K3.1
  have F3_value : Fld Z h3 b3 "java/lang/String" "value" "[B" .null := D3 (Or.inr (tw hw 23 rfl)) (ty := (.array .byte)) (by decide)
  have F3_coder : Fld Z h3 b3 "java/lang/String" "coder" "B" (.int (0 : Int32)) := D3 (Or.inr (tw hw 25 rfl)) (ty := .byte) (by decide)
  have O5 : Old Z n0 h3 := O0.keep K3 all0
  obtain ⟨_, _, ⟨T4, L4, k4, n4⟩, -, X4, ⟨Lc4, hQ4, l4, y4, z4⟩, st4⟩ := Jvm.LawKit.callS X3 hx (y := (⟨"java/lang/StringLatin1", "toBytes", "(C)[B"⟩ : MethodName)) hown (mvT hZ (tw hw 11 rfl)) (mvT hZ (tw hw 12 rfl)) (mvT hZ (tw hw 7 rfl)) (mvT hZ (tw hw 13 rfl)) (by decide) (backOf (W := 2) (rm3 l Z a0 hw [] p1  h3 n0 O5 ) hZ (tw hw 13 rfl) (tw hw 7 rfl) (by decide) (by decide)) (g := (mkF m 18 #[.val (.int p1)] [(.int p1), (.ref b3), (.ref b3)])) rfl (by rw [hml]; rfl) (argsL := [(.int p1)]) (rest := [(.ref b3), (.ref b3)]) (lenOf pd_2 rfl) rfl (by show 2 * 0 + _ ≤ _; exact Nat.le_of_eq rfl) (hb hby d1_18) (fun _ _ => ⟨rfl, e3, (by decide : 1 + 1 ≤ _), (by decide : 4 + 1 ≤ _)⟩)
  dsimp only [Pt.U, Pt.locs, Pt.cells, Pt.slots] at X4 l4 y4 z4 st4 hQ4
  subst l4 y4 z4
  obtain ⟨t4, kb4, rfl, N4q, K4, gt4, V4⟩ := hQ4
  have lt4 : @LT.lt Nat _ t4 T4.heap.size := V4.lt
  have sz2_K4 := K4.1
  have N4 := Fr.app N2 N4q
  have C7 := A3.keep K4
  have C8 := F3_value.keep K4 nin0
  have C9 := F3_coder.keep K4 nin0
  have O10 : Old Z n0 T4.heap := O5.keep K4 all0
  obtain ⟨_, _, ⟨T6, L6, k6, n6⟩, -, X6, ⟨Lc6, hQ6, l6, y6, z6⟩, st6⟩ := X4.specialBack hx (y := (⟨"java/lang/String", "<init>", "([BB)V"⟩ : MethodName)) rfl hown (mvT hZ (tw hw 15 rfl)) (mvT hZ (tw hw 16 rfl)) (mvT hZ (tw hw 18 rfl)) (by decide) (backOf (W := 1) (rm4 l Z a0 hw [] b3 t4  T4.heap n0 O10 (by omega : @LE.le Nat _ n0 b3) C7 C8 C9) hZ (tw hw 18 rfl) (tw hw 2 rfl) (by decide) (by decide)) (g := (mkF m 22 #[.val (.int p1)] [(.int (0 : Int32)), (.ref t4), (.ref b3), (.ref b3)])) rfl (by rw [hml]; rfl) (Steps.refl _) (a := b3) (argsL := [(.ref t4), (.int (0 : Int32))]) (rest := [(.ref b3)]) (lenOf pd_3 rfl) rfl (by show 2 * 0 + _ ≤ _; exact Nat.le_of_eq rfl) (hb hby d1_22) (fun _ _ => ⟨rfl, rfl, (by decide : 2 + 0 ≤ _), (by decide : 5 + 0 ≤ _)⟩)
  dsimp only [Pt.U, Pt.locs, Pt.cells, Pt.slots] at X6 l6 y6 z6 st6 hQ6
  subst l6 y6 z6
  obtain ⟨rfl, N6q, K6, E6, Fv6, Fc6⟩ := hQ6
  have sz3_K6 := K6.1
  have N6 := Fr.app N4 N6q
  have KC11 : Keep h0 h3 [] := (Keep.refl h0 []).trans K3 (all0)
  have KC12 : Keep h0 T4.heap [] := KC11.trans K4 (all0)
  have KC13 : Keep h0 T6.heap [] := KC12.trans K6 (allS (Or.inr (by omega)) (all0))
  have C14 := V4.keep K6 (ninS (by omega : @Ne Nat t4 b3) (nin0))
  obtain ⟨fs, hr, hrun, hended, hW, hsame⟩ := X6.leave (v := some (.ref b3)) (fun h => by rw [Bd.returns] at h; cases h)
  refine ⟨_, _, pre0 _ ?_, hrun, hended, _, _, rfl, ?_, ⟨_, rfl⟩, hW, hsame.mono (by decide) (by decide)⟩
  · skip
    show Steps p.tables e below (s₁.setTop (mkF m 0 #[.val (.int p1)] [])) _
    refine st1 _ ?_
    show Steps p.tables e below (T1.setTop (mkF m 3 #[.val (.int p1)] [(.int cs)])) _
    refine XS.ifNo X1.here hx rfl (hb hby d1_3) rfl ((if0 _ _).trans (feq (c_CS : ¬ (cs = (0 : Int32)))).1) ?_
    show Steps p.tables e below (T1.setTop (mkF m 6 #[.val (.int p1)] [])) _
    refine XS.iloadN X1.here hx rfl (hb hby d1_6) rfl ?_
    show Steps p.tables e below (T1.setTop (mkF m 7 #[.val (.int p1)] [(.int p1)])) _
    refine st2 _ ?_
    show Steps p.tables e below (T2.setTop (mkF m 10 #[.val (.int p1)] [(.int (1 : Int32))])) _
    refine XS.ifNo X2.here hx rfl (hb hby d1_10) rfl ((if0 _ _).trans (feq (by decide : ¬ ((1 : Int32) = (0 : Int32)))).1) ?_
    show Steps p.tables e below (T2.setTop (mkF m 13 #[.val (.int p1)] [])) _
    refine st3 _ ?_
    show Steps p.tables e below (T3.setTop (mkF m 16 #[.val (.int p1)] [(.ref b3)])) _
    refine XS.dup X3.here hx rfl (hb hby d1_16) rfl rfl ?_
    show Steps p.tables e below (T3.setTop (mkF m 17 #[.val (.int p1)] [(.ref b3), (.ref b3)])) _
    refine XS.iloadN X3.here hx rfl (hb hby d1_17) rfl ?_
    show Steps p.tables e below (T3.setTop (mkF m 18 #[.val (.int p1)] [(.int p1), (.ref b3), (.ref b3)])) _
    refine st4 _ ?_
    show Steps p.tables e below (T4.setTop (mkF m 21 #[.val (.int p1)] [(.ref t4), (.ref b3), (.ref b3)])) _
    refine XS.iconst X4.here hx rfl (hb hby d1_21) ?_
    show Steps p.tables e below (T4.setTop (mkF m 22 #[.val (.int p1)] [(.int (0 : Int32)), (.ref t4), (.ref b3), (.ref b3)])) _
    refine st6.trans ?_
    show Steps p.tables e below (T6.setTop (mkF m 25 #[.val (.int p1)] [(.ref b3)])) _
    exact X6.areturnOut hx rfl Bd.returns rfl (hb hby d1_25) hr
  · show Q_rm1 Z p1 cs h0 n0 _ T6.heap _
    exact ⟨_, _, _, rfl, N6, KC13, (by omega), (by omega), (by omega), E6, Fc6, Fv6, C14⟩
theorem d15_0 : decode jdk_42_method_66_code 0 = .ok (.aload_n 0, 1) := by decide +kernel
theorem d15_1 : decode jdk_42_method_66_code 1 = .ok (.aload_n 1, 1) := by decide +kernel
theorem d15_2 : decode jdk_42_method_66_code 2 = .ok (.if_acmp .ne 5, 3) := by decide +kernel
theorem d15_5 : decode jdk_42_method_66_code 5 = .ok (.iconst 1, 1) := by decide +kernel
theorem d15_6 : decode jdk_42_method_66_code 6 = .ok (.ireturn, 1) := by decide +kernel
theorem pn_15 : plainName "java/lang/String" = true := by first | (simp [plainName, overriddenIn]; done) | decide +kernel
theorem ef_rmEqSame (m : MethodId) (y0 : Addr) : entryFrame m #[(.ref y0), (.ref y0)] 3 = (mkF m 0 #[.val (.ref y0), .val (.ref y0), .unset] []) := by first | (simp [entryFrame, mkF, argsToLocals, Value.category]; done) | rfl
def Q_rmEqSame (Z : State) (a1 : Addr) (h0 : Heap) (n0 : Nat) (v : Option Value) (h : Heap) (L : List Loc) : Prop := v = some (.int (1 : Int32)) ∧ Fr n0 L ∧ h = h0
set_option maxRecDepth 65536 in
set_option maxHeartbeats 40000000 in
theorem rmEqSame (l : Launch) (Z : State) (a0 : Array Value) (hw : ∀ d ∈ tables_1, d.before a0 Z = true) (ws : List Jvm.Cond) (a1 : Addr) (h0 : Heap) (n0 : Nat) (O0 : Old Z n0 h0) :
    MetFree l (⟨"java/lang/String", "equals", "(Ljava/lang/Object;)Z"⟩ : MethodName) (head1 (Jvm.Cond.code (⟨"java/lang/String", "equals", "(Ljava/lang/Object;)Z"⟩ : MethodName) jdk_42_method_66_code 3 (some .boolean) :: ws) ({ frames := 0, cells := 0, slots := 0, locals := 0 } : Room)) (fun a U => a = #[(.ref a1), (.ref a1)] ∧ Z.Warmed39 U.vm ∧ U.heap = h0) (fun _ _ _ _ _ => True) (fun _ U o U' => ∃ v L, o = .returned v ∧ Q_rmEqSame Z a1 h0 n0 v U'.heap L ∧ FrameEnd U o U' L ({ frames := 0, cells := 0, slots := 0, locals := 0 } : Room).cells ({ frames := 0, cells := 0, slots := 0, locals := 0 } : Room).slots) := by
  refine MetFree.of_bodySF (plainFor_of_name pn_15) hisR ?_
  intro p e s m args below meth c s₁ Bd hml0 hP hK
  obtain ⟨rfl, hZ, hh⟩ := hP
  have hx := Bd.exec
  have hby := Bd.bytes
  have hml : c.maxLocals = 3 := hml0
  have hown : s.vm.findClass "java/lang/String" = some m.cls := findClass_of_methodNamed Bd.named
  have hnm := (name_of_methodNamed Bd.named Bd.method).1
  have X0 : Stand p l e ({ frames := 0, cells := 0, slots := 0, locals := 0 } : Room) s m #[(.ref a1), (.ref a1)] below meth c s₁ [] 0 0 := Stand.of_body Bd
  have e0 : s₁.heap = h0 := by rw [← hh, Bd.state]; rfl
  have N0 := Fr.nil n0
  have hn0 : n0 ≤ h0.size := O0.1 ▸ O0.2.1
  have pre0 : ∀ t, Steps p.tables e below (s₁.setTop (mkF m 0 #[.val (.ref a1), .val (.ref a1), .unset] [])) t → Steps p.tables e below (s₁.setTop (entryFrame m #[(.ref a1), (.ref a1)] 3)) t := fun t k => castTop (ef_rmEqSame m a1) k
  obtain ⟨fs, hr, hrun, hended, hW, hsame⟩ := X0.leave (v := some (.int (1 : Int32))) (fun h => by rw [Bd.returns] at h; cases h)
  refine ⟨_, _, pre0 _ ?_, hrun, hended, _, _, rfl, ?_, ⟨_, rfl⟩, hW, hsame.mono (by decide) (by decide)⟩
  · skip
    show Steps p.tables e below (s₁.setTop (mkF m 0 #[.val (.ref a1), .val (.ref a1), .unset] [])) _
    refine XS.aloadN X0.here hx rfl (hb hby d15_0) rfl rfl ?_
    show Steps p.tables e below (s₁.setTop (mkF m 1 #[.val (.ref a1), .val (.ref a1), .unset] [(.ref a1)])) _
    refine XS.aloadN X0.here hx rfl (hb hby d15_1) rfl rfl ?_
    show Steps p.tables e below (s₁.setTop (mkF m 2 #[.val (.ref a1), .val (.ref a1), .unset] [(.ref a1), (.ref a1)])) _
    refine Jvm.RoadKit.acmp (g := (mkF m 2 #[.val (.ref a1), .val (.ref a1), .unset] [(.ref a1), (.ref a1)])) X0 hx rfl rfl rfl (pc0 := 2) (pc' := 5) (same := true) rfl (hb hby d15_2) rfl (decide_eq_true rfl) (by decide) (by decide) ?_
    show Steps p.tables e below (s₁.setTop (mkF m 5 #[.val (.ref a1), .val (.ref a1), .unset] [])) _
    refine XS.iconst X0.here hx rfl (hb hby d15_5) ?_
    show Steps p.tables e below (s₁.setTop (mkF m 6 #[.val (.ref a1), .val (.ref a1), .unset] [(.int (1 : Int32))])) _
    exact retN X0 hx (t := .boolean) Bd.returns (by simp) (hb hby d15_6) hr
  · show Q_rmEqSame Z a1 h0 n0 _ s₁.heap _
    rw [e0]
    exact ⟨rfl, N0, rfl⟩
theorem d13_0 : decode jdk_37_method_2_code 0 = .ok (.aload_n 0, 1) := by decide +kernel
theorem d13_1 : decode jdk_37_method_2_code 1 = .ok (.getfield 7, 3) := by decide +kernel
theorem d13_4 : decode jdk_37_method_2_code 4 = .ok (.ireturn, 1) := by decide +kernel
theorem pn_13 : plainName "java/lang/Enum" = true := by first | (simp [plainName, overriddenIn]; done) | decide +kernel
theorem ef_rm13 (m : MethodId) (y0 : Addr) : entryFrame m #[(.ref y0)] 1 = (mkF m 0 #[.val (.ref y0)] []) := by first | (simp [entryFrame, mkF, argsToLocals, Value.category]; done) | rfl
def Q_rm13 (Z : State) (a1 : Addr) (p2 : Int32) (h0 : Heap) (n0 : Nat) (v : Option Value) (h : Heap) (L : List Loc) : Prop := v = some (.int p2) ∧ Fr n0 L ∧ h = h0
set_option maxRecDepth 65536 in
set_option maxHeartbeats 40000000 in
theorem rm13 (l : Launch) (Z : State) (a0 : Array Value) (hw : ∀ d ∈ tables_1, d.before a0 Z = true) (ws : List Jvm.Cond) (a1 : Addr) (p2 : Int32) (h0 : Heap) (n0 : Nat) (O0 : Old Z n0 h0) (F1 : Fld Z h0 a1 "java/lang/Enum" "ordinal" "I" (.int p2)) :
    MetFree l (⟨"java/lang/Enum", "ordinal", "()I"⟩ : MethodName) (head1 (Jvm.Cond.code (⟨"java/lang/Enum", "ordinal", "()I"⟩ : MethodName) jdk_37_method_2_code 1 (some .int) :: ws) ({ frames := 0, cells := 0, slots := 0, locals := 0 } : Room)) (fun a U => a = #[(.ref a1)] ∧ Z.Warmed39 U.vm ∧ U.heap = h0) (fun _ _ _ _ _ => True) (fun _ U o U' => ∃ v L, o = .returned v ∧ Q_rm13 Z a1 p2 h0 n0 v U'.heap L ∧ FrameEnd U o U' L ({ frames := 0, cells := 0, slots := 0, locals := 0 } : Room).cells ({ frames := 0, cells := 0, slots := 0, locals := 0 } : Room).slots) := by
  refine MetFree.of_bodySF (plainFor_of_name pn_13) hisR ?_
  intro p e s m args below meth c s₁ Bd hml0 hP hK
  obtain ⟨rfl, hZ, hh⟩ := hP
  have hx := Bd.exec
  have hby := Bd.bytes
  have hml : c.maxLocals = 1 := hml0
  have hown : s.vm.findClass "java/lang/Enum" = some m.cls := findClass_of_methodNamed Bd.named
  have hnm := (name_of_methodNamed Bd.named Bd.method).1
  have X0 : Stand p l e ({ frames := 0, cells := 0, slots := 0, locals := 0 } : Room) s m #[(.ref a1)] below meth c s₁ [] 0 0 := Stand.of_body Bd
  have e0 : s₁.heap = h0 := by rw [← hh, Bd.state]; rfl
  have N0 := Fr.nil n0
  have hn0 : n0 ≤ h0.size := O0.1 ▸ O0.2.1
  have pre0 : ∀ t, Steps p.tables e below (s₁.setTop (mkF m 0 #[.val (.ref a1)] [])) t → Steps p.tables e below (s₁.setTop (entryFrame m #[(.ref a1)] 1)) t := fun t k => castTop (ef_rm13 m a1) k
  obtain ⟨T1, X1, e1, st1⟩ := getF X0 hx hZ hown (host := "") (Or.inl (tw hw 74 rfl)) Via.refl e0 F1 (g := (mkF m 1 #[.val (.ref a1)] [(.ref a1)])) rfl rfl (hb hby d13_1)
  obtain ⟨fs, hr, hrun, hended, hW, hsame⟩ := X1.leave (v := some (.int p2)) (fun h => by rw [Bd.returns] at h; cases h)
  refine ⟨_, _, pre0 _ ?_, hrun, hended, _, _, rfl, ?_, ⟨_, rfl⟩, hW, hsame.mono (by decide) (by decide)⟩
  · skip
    show Steps p.tables e below (s₁.setTop (mkF m 0 #[.val (.ref a1)] [])) _
    refine XS.aloadN X0.here hx rfl (hb hby d13_0) rfl rfl ?_
    show Steps p.tables e below (s₁.setTop (mkF m 1 #[.val (.ref a1)] [(.ref a1)])) _
    refine st1 _ ?_
    show Steps p.tables e below (T1.setTop (mkF m 4 #[.val (.ref a1)] [(.int p2)])) _
    exact retI X1 hx Bd.returns (hb hby d13_4) hr
  · show Q_rm13 Z a1 p2 h0 n0 _ T1.heap _
    rw [e1]
    exact ⟨rfl, N0, rfl⟩
theorem d14_0 : decode method_2_code 0 = .ok (.aload_n 0, 1) := by decide +kernel
theorem d14_1 : decode method_2_code 1 = .ok (.ifnonnull 13, 3) := by decide +kernel
theorem d14_4 : decode method_2_code 4 = .ok (.aload_n 1, 1) := by decide +kernel
theorem d14_5 : decode method_2_code 5 = .ok (.ifnonnull 7, 3) := by decide +kernel
theorem d14_8 : decode method_2_code 8 = .ok (.iconst 1, 1) := by decide +kernel
theorem d14_9 : decode method_2_code 9 = .ok (.goto 4, 3) := by decide +kernel
theorem d14_13 : decode method_2_code 13 = .ok (.ireturn, 1) := by decide +kernel
theorem pn_14 : plainName "com/example/links_to_sitemap/linkstositemap/EntryFieldPinLaw" = true := by first | (simp [plainName, overriddenIn]; done) | decide +kernel
theorem ef_rmSameN (m : MethodId) : entryFrame m #[.null, .null] 2 = (mkF m 0 #[.val .null, .val .null] []) := by first | (simp [entryFrame, mkF, argsToLocals, Value.category]; done) | rfl
def Q_rmSameN (Z : State)  (h0 : Heap) (n0 : Nat) (v : Option Value) (h : Heap) (L : List Loc) : Prop := v = some (.int (1 : Int32)) ∧ Fr n0 L ∧ h = h0
set_option maxRecDepth 65536 in
set_option maxHeartbeats 40000000 in
theorem rmSameN (l : Launch) (Z : State) (a0 : Array Value) (hw : ∀ d ∈ tables_1, d.before a0 Z = true) (ws : List Jvm.Cond)  (h0 : Heap) (n0 : Nat) (O0 : Old Z n0 h0) :
    MetFree l (⟨"com/example/links_to_sitemap/linkstositemap/EntryFieldPinLaw", "same", "(Ljava/lang/String;Ljava/lang/String;)Z"⟩ : MethodName) (head1 (Jvm.Cond.code (⟨"com/example/links_to_sitemap/linkstositemap/EntryFieldPinLaw", "same", "(Ljava/lang/String;Ljava/lang/String;)Z"⟩ : MethodName) method_2_code 2 (some .boolean) :: ws) ({ frames := 0, cells := 0, slots := 0, locals := 0 } : Room)) (fun a U => a = #[.null, .null] ∧ Z.Warmed39 U.vm ∧ U.heap = h0) (fun _ _ _ _ _ => True) (fun _ U o U' => ∃ v L, o = .returned v ∧ Q_rmSameN Z  h0 n0 v U'.heap L ∧ FrameEnd U o U' L ({ frames := 0, cells := 0, slots := 0, locals := 0 } : Room).cells ({ frames := 0, cells := 0, slots := 0, locals := 0 } : Room).slots) := by
  refine MetFree.of_bodySF (plainFor_of_name pn_14) hisR ?_
  intro p e s m args below meth c s₁ Bd hml0 hP hK
  obtain ⟨rfl, hZ, hh⟩ := hP
  have hx := Bd.exec
  have hby := Bd.bytes
  have hml : c.maxLocals = 2 := hml0
  have hown : s.vm.findClass "com/example/links_to_sitemap/linkstositemap/EntryFieldPinLaw" = some m.cls := findClass_of_methodNamed Bd.named
  have hnm := (name_of_methodNamed Bd.named Bd.method).1
  have X0 : Stand p l e ({ frames := 0, cells := 0, slots := 0, locals := 0 } : Room) s m #[.null, .null] below meth c s₁ [] 0 0 := Stand.of_body Bd
  have e0 : s₁.heap = h0 := by rw [← hh, Bd.state]; rfl
  have N0 := Fr.nil n0
  have hn0 : n0 ≤ h0.size := O0.1 ▸ O0.2.1
  have pre0 : ∀ t, Steps p.tables e below (s₁.setTop (mkF m 0 #[.val .null, .val .null] [])) t → Steps p.tables e below (s₁.setTop (entryFrame m #[.null, .null] 2)) t := fun t k => castTop (ef_rmSameN m ) k
  obtain ⟨fs, hr, hrun, hended, hW, hsame⟩ := X0.leave (v := some (.int (1 : Int32))) (fun h => by rw [Bd.returns] at h; cases h)
  refine ⟨_, _, pre0 _ ?_, hrun, hended, _, _, rfl, ?_, ⟨_, rfl⟩, hW, hsame.mono (by decide) (by decide)⟩
  · skip
    show Steps p.tables e below (s₁.setTop (mkF m 0 #[.val .null, .val .null] [])) _
    refine XS.aloadN X0.here hx rfl (hb hby d14_0) rfl rfl ?_
    show Steps p.tables e below (s₁.setTop (mkF m 1 #[.val .null, .val .null] [.null])) _
    refine XS.ifnonnullNo X0.here hx rfl (hb hby d14_1) rfl ?_
    show Steps p.tables e below (s₁.setTop (mkF m 4 #[.val .null, .val .null] [])) _
    refine XS.aloadN X0.here hx rfl (hb hby d14_4) rfl rfl ?_
    show Steps p.tables e below (s₁.setTop (mkF m 5 #[.val .null, .val .null] [.null])) _
    refine XS.ifnonnullNo X0.here hx rfl (hb hby d14_5) rfl ?_
    show Steps p.tables e below (s₁.setTop (mkF m 8 #[.val .null, .val .null] [])) _
    refine XS.iconst X0.here hx rfl (hb hby d14_8) ?_
    show Steps p.tables e below (s₁.setTop (mkF m 9 #[.val .null, .val .null] [(.int (1 : Int32))])) _
    refine XS.goto X0.here hx rfl (pc0 := 9) (pc' := 13) rfl (hb hby d14_9) (by decide) (by decide) ?_
    show Steps p.tables e below (s₁.setTop (mkF m 13 #[.val .null, .val .null] [(.int (1 : Int32))])) _
    exact retN X0 hx (t := .boolean) Bd.returns (by simp) (hb hby d14_13) hr
  · show Q_rmSameN Z  h0 n0 _ s₁.heap _
    rw [e0]
    exact ⟨rfl, N0, rfl⟩
theorem d14_14 : decode method_2_code 14 = .ok (.aload_n 0, 1) := by decide +kernel
theorem d14_15 : decode method_2_code 15 = .ok (.aload_n 1, 1) := by decide +kernel
theorem d14_16 : decode method_2_code 16 = .ok (.invokevirtual 7, 3) := by decide +kernel
theorem d14_19 : decode method_2_code 19 = .ok (.ireturn, 1) := by decide +kernel
theorem pd_14 : parseMethodDescriptor "(Ljava/lang/Object;)Z" = some ⟨[(.object "java/lang/Object")], some .boolean⟩ := by decide +kernel
theorem ef_rmSameX (m : MethodId) (y0 : Addr) : entryFrame m #[(.ref y0), (.ref y0)] 2 = (mkF m 0 #[.val (.ref y0), .val (.ref y0)] []) := by first | (simp [entryFrame, mkF, argsToLocals, Value.category]; done) | rfl
def Q_rmSameX (Z : State) (a1 : Addr) (h0 : Heap) (n0 : Nat) (v : Option Value) (h : Heap) (L : List Loc) : Prop := v = some (.int (1 : Int32)) ∧ Fr n0 L ∧ h = h0
set_option maxRecDepth 65536 in
set_option maxHeartbeats 40000000 in
theorem rmSameX (l : Launch) (Z : State) (a0 : Array Value) (hw : ∀ d ∈ tables_1, d.before a0 Z = true) (ws : List Jvm.Cond) (a1 : Addr) (h0 : Heap) (n0 : Nat) (O0 : Old Z n0 h0) (E1 : Exa Z h0 a1 "java/lang/String") :
    MetFree l (⟨"com/example/links_to_sitemap/linkstositemap/EntryFieldPinLaw", "same", "(Ljava/lang/String;Ljava/lang/String;)Z"⟩ : MethodName) (head1 (Jvm.Cond.code (⟨"com/example/links_to_sitemap/linkstositemap/EntryFieldPinLaw", "same", "(Ljava/lang/String;Ljava/lang/String;)Z"⟩ : MethodName) method_2_code 2 (some .boolean) :: ws) ({ frames := 1, cells := 0, slots := 0, locals := 20 } : Room)) (fun a U => a = #[(.ref a1), (.ref a1)] ∧ Z.Warmed39 U.vm ∧ U.heap = h0) (fun _ _ _ _ _ => True) (fun _ U o U' => ∃ v L, o = .returned v ∧ Q_rmSameX Z a1 h0 n0 v U'.heap L ∧ FrameEnd U o U' L ({ frames := 1, cells := 0, slots := 0, locals := 20 } : Room).cells ({ frames := 1, cells := 0, slots := 0, locals := 20 } : Room).slots) := by
  refine MetFree.of_bodySF (plainFor_of_name pn_14) hisR ?_
  intro p e s m args below meth c s₁ Bd hml0 hP hK
  obtain ⟨rfl, hZ, hh⟩ := hP
  have hx := Bd.exec
  have hby := Bd.bytes
  have hml : c.maxLocals = 2 := hml0
  have hown : s.vm.findClass "com/example/links_to_sitemap/linkstositemap/EntryFieldPinLaw" = some m.cls := findClass_of_methodNamed Bd.named
  have hnm := (name_of_methodNamed Bd.named Bd.method).1
  have X0 : Stand p l e ({ frames := 1, cells := 0, slots := 0, locals := 20 } : Room) s m #[(.ref a1), (.ref a1)] below meth c s₁ [] 0 0 := Stand.of_body Bd
  have e0 : s₁.heap = h0 := by rw [← hh, Bd.state]; rfl
  have N0 := Fr.nil n0
  have hn0 : n0 ≤ h0.size := O0.1 ▸ O0.2.1
  have pre0 : ∀ t, Steps p.tables e below (s₁.setTop (mkF m 0 #[.val (.ref a1), .val (.ref a1)] [])) t → Steps p.tables e below (s₁.setTop (entryFrame m #[(.ref a1), (.ref a1)] 2)) t := fun t k => castTop (ef_rmSameX m a1) k
  obtain ⟨cq1, kq1, q1a, q1b, q1c⟩ := isOf hZ e0 E1
  obtain ⟨_, _, ⟨T1, L1, k1, n1⟩, -, X1, ⟨Lc1, hQ1, l1, y1, z1⟩, st1⟩ := X0.virtualBack hx (y := (⟨"java/lang/String", "equals", "(Ljava/lang/Object;)Z"⟩ : MethodName)) (z := (⟨"java/lang/String", "equals", "(Ljava/lang/Object;)Z"⟩ : MethodName)) hown (mvT hZ (tw hw 84 rfl)) (mvT hZ (tw hw 85 rfl)) (notFace_of_selects (args := #[]) (mvT hZ (tw hw 87 rfl))) (mvT hZ (tw hw 87 rfl)) (mvT hZ (tw hw 86 rfl)) (by decide) (backOf (W := 0) (rmEqSame l Z a0 hw [] a1  h0 n0 O0 ) hZ (tw hw 88 rfl) (tw hw 2 rfl) (by decide) (by decide)) q1a q1c (g := (mkF m 16 #[.val (.ref a1), .val (.ref a1)] [(.ref a1), (.ref a1)])) rfl (by rw [hml]; rfl) (Steps.refl _) (argsL := [(.ref a1)]) (rest := []) (lenOf pd_14 rfl) rfl (by show 2 * 0 + _ ≤ _; exact Nat.le_of_eq rfl) (hb hby d14_16) (fun _ _ => ⟨rfl, e0, (by decide : 0 + 0 ≤ _), (by decide : 0 + 0 ≤ _)⟩)
  dsimp only [Pt.U, Pt.locs, Pt.cells, Pt.slots] at X1 l1 y1 z1 st1 hQ1
  subst l1 y1 z1
  obtain ⟨rfl, N1q, H1⟩ := hQ1
  have N1 := Fr.app N0 N1q
  obtain ⟨fs, hr, hrun, hended, hW, hsame⟩ := X1.leave (v := some (.int (1 : Int32))) (fun h => by rw [Bd.returns] at h; cases h)
  refine ⟨_, _, pre0 _ ?_, hrun, hended, _, _, rfl, ?_, ⟨_, rfl⟩, hW, hsame.mono (by decide) (by decide)⟩
  · skip
    show Steps p.tables e below (s₁.setTop (mkF m 0 #[.val (.ref a1), .val (.ref a1)] [])) _
    refine XS.aloadN X0.here hx rfl (hb hby d14_0) rfl rfl ?_
    show Steps p.tables e below (s₁.setTop (mkF m 1 #[.val (.ref a1), .val (.ref a1)] [(.ref a1)])) _
    refine XS.ifnonnullYes X0.here hx rfl (pc0 := 1) (pc' := 14) rfl (hb hby d14_1) rfl (by decide) (by decide) ?_
    show Steps p.tables e below (s₁.setTop (mkF m 14 #[.val (.ref a1), .val (.ref a1)] [])) _
    refine XS.aloadN X0.here hx rfl (hb hby d14_14) rfl rfl ?_
    show Steps p.tables e below (s₁.setTop (mkF m 15 #[.val (.ref a1), .val (.ref a1)] [(.ref a1)])) _
    refine XS.aloadN X0.here hx rfl (hb hby d14_15) rfl rfl ?_
    show Steps p.tables e below (s₁.setTop (mkF m 16 #[.val (.ref a1), .val (.ref a1)] [(.ref a1), (.ref a1)])) _
    refine st1.trans ?_
    show Steps p.tables e below (T1.setTop (mkF m 19 #[.val (.ref a1), .val (.ref a1)] [(.int (1 : Int32))])) _
    exact retN X1 hx (t := .boolean) Bd.returns (by simp) (hb hby d14_19) hr
  · show Q_rmSameX Z a1 h0 n0 _ T1.heap _
    rw [H1]
    exact ⟨rfl, N1, rfl⟩
theorem d11_0 : decode prog_22_method_2_code 0 = .ok (.aload_n 0, 1) := by decide +kernel
theorem d11_1 : decode prog_22_method_2_code 1 = .ok (.invokespecial 7, 3) := by decide +kernel
theorem d11_4 : decode prog_22_method_2_code 4 = .ok (.aload_n 0, 1) := by decide +kernel
theorem d11_5 : decode prog_22_method_2_code 5 = .ok (.aload_n 1, 1) := by decide +kernel
theorem d11_6 : decode prog_22_method_2_code 6 = .ok (.putfield 12, 3) := by decide +kernel
theorem d11_9 : decode prog_22_method_2_code 9 = .ok (.aload_n 0, 1) := by decide +kernel
theorem d11_10 : decode prog_22_method_2_code 10 = .ok (.aload_n 2, 1) := by decide +kernel
theorem d11_11 : decode prog_22_method_2_code 11 = .ok (.putfield 16, 3) := by decide +kernel
theorem d11_14 : decode prog_22_method_2_code 14 = .ok (.return_, 1) := by decide +kernel
theorem pn_11 : plainName "com/example/links_to_sitemap/linkstositemap/SitemapFileWriter$Entry" = true := by first | (simp [plainName, overriddenIn]; done) | decide +kernel
theorem ef_rmEntryN (m : MethodId) (y0 : Addr) (y1 : Addr) : entryFrame m #[(.ref y0), (.ref y1), .null] 3 = (mkF m 0 #[.val (.ref y0), .val (.ref y1), .val .null] []) := by first | (simp [entryFrame, mkF, argsToLocals, Value.category]; done) | rfl
def Q_rmEntryN (Z : State) (a1 : Addr) (a2 : Addr) (h0 : Heap) (n0 : Nat) (v : Option Value) (h : Heap) (L : List Loc) : Prop := v = none ∧ Fr n0 L ∧ Keep h0 h [a1] ∧ Exa Z h a1 "com/example/links_to_sitemap/linkstositemap/SitemapFileWriter$Entry" ∧ Fld Z h a1 "com/example/links_to_sitemap/linkstositemap/SitemapFileWriter$Entry" "fields" "[Ljava/lang/String;" .null
set_option maxRecDepth 65536 in
set_option maxHeartbeats 40000000 in
theorem rmEntryN (l : Launch) (Z : State) (a0 : Array Value) (hw : ∀ d ∈ tables_1, d.before a0 Z = true) (ws : List Jvm.Cond) (a1 : Addr) (a2 : Addr) (h0 : Heap) (n0 : Nat) (O0 : Old Z n0 h0) (g1 : n0 ≤ a1) (E1 : Exa Z h0 a1 "com/example/links_to_sitemap/linkstositemap/SitemapFileWriter$Entry") (F1 : Fld Z h0 a1 "com/example/links_to_sitemap/linkstositemap/SitemapFileWriter$Entry" "loc" "Ljava/lang/String;" .null) (F2 : Fld Z h0 a1 "com/example/links_to_sitemap/linkstositemap/SitemapFileWriter$Entry" "fields" "[Ljava/lang/String;" .null) :
    MetFree l (⟨"com/example/links_to_sitemap/linkstositemap/SitemapFileWriter$Entry", "<init>", "(Ljava/lang/String;[Ljava/lang/String;)V"⟩ : MethodName) (head1 (Jvm.Cond.code (⟨"com/example/links_to_sitemap/linkstositemap/SitemapFileWriter$Entry", "<init>", "(Ljava/lang/String;[Ljava/lang/String;)V"⟩ : MethodName) prog_22_method_2_code 3 none :: ws) ({ frames := 1, cells := 0, slots := 0, locals := 12 } : Room)) (fun a U => a = #[(.ref a1), (.ref a2), .null] ∧ Z.Warmed39 U.vm ∧ U.heap = h0) (fun _ _ _ _ _ => True) (fun _ U o U' => ∃ v L, o = .returned v ∧ Q_rmEntryN Z a1 a2 h0 n0 v U'.heap L ∧ FrameEnd U o U' L ({ frames := 1, cells := 0, slots := 0, locals := 12 } : Room).cells ({ frames := 1, cells := 0, slots := 0, locals := 12 } : Room).slots) := by
  refine MetFree.of_bodySF (plainFor_of_name pn_11) hisR ?_
  intro p e s m args below meth c s₁ Bd hml0 hP hK
  obtain ⟨rfl, hZ, hh⟩ := hP
  have hx := Bd.exec
  have hby := Bd.bytes
  have hml : c.maxLocals = 3 := hml0
  have hown : s.vm.findClass "com/example/links_to_sitemap/linkstositemap/SitemapFileWriter$Entry" = some m.cls := findClass_of_methodNamed Bd.named
  have hnm := (name_of_methodNamed Bd.named Bd.method).1
  have X0 : Stand p l e ({ frames := 1, cells := 0, slots := 0, locals := 12 } : Room) s m #[(.ref a1), (.ref a2), .null] below meth c s₁ [] 0 0 := Stand.of_body Bd
  have e0 : s₁.heap = h0 := by rw [← hh, Bd.state]; rfl
  have N0 := Fr.nil n0
  have hn0 : n0 ≤ h0.size := O0.1 ▸ O0.2.1
  have pre0 : ∀ t, Steps p.tables e below (s₁.setTop (mkF m 0 #[.val (.ref a1), .val (.ref a2), .val .null] [])) t → Steps p.tables e below (s₁.setTop (entryFrame m #[(.ref a1), (.ref a2), .null] 3)) t := fun t k => castTop (ef_rmEntryN m a1 a2) k
  have lt_a1 : @LT.lt Nat _ a1 h0.size := E1.lt
  obtain ⟨T1, X1, e1, st1⟩ := initO X0 hx hZ hown (tw hw 54 rfl) (tw hw 20 rfl) (tw hw 21 rfl) e0 (g := (mkF m 1 #[.val (.ref a1), .val (.ref a2), .val .null] [(.ref a1)])) rfl (by rw [hml]; rfl) rfl (hb hby d11_1) (by decide) (W := 0) (by show 2 * 0 + _ ≤ _; exact Nat.le_of_eq rfl) (by decide)
  obtain ⟨T2, h2, X2, e2, W2, st2⟩ := putF X1 hx hZ hown (host := "") (Or.inl (tw hw 55 rfl)) Via.refl e1 F1 E1 (Or.inr ⟨(tw hw 56 rfl), rfl, hnm⟩) (tw hw 46 rfl) (ty := (.object "java/lang/String")) (by decide) rfl rfl (g := (mkF m 6 #[.val (.ref a1), .val (.ref a2), .val .null] [(.ref a2), (.ref a1)])) rfl rfl (hb hby d11_6)
  have K2 := Keep.of_wr W2
  have Fw2 := Fld.same W2 F1
  have N2 := Fr.snoc X2 N0 (by omega : @LE.le Nat _ n0 a1)
  have sz1_K2 := K2.1
  have C3 := E1.keep K2
  have C4 := Fld.other W2 F2 (Or.inr (slot_ne (Or.inr (tw hw 58 rfl)) (Or.inr (tw hw 56 rfl)) (by decide) (t := (.array (.object "java/lang/String"))) (t' := (.object "java/lang/String")) (by decide) (by decide)))
  obtain ⟨T5, h5, X5, e5, W5, st5⟩ := putF X2 hx hZ hown (host := "") (Or.inl (tw hw 57 rfl)) Via.refl e2 C4 C3 (Or.inr ⟨(tw hw 58 rfl), rfl, hnm⟩) (tw hw 46 rfl) (ty := (.array (.object "java/lang/String"))) (by decide) rfl rfl (g := (mkF m 11 #[.val (.ref a1), .val (.ref a2), .val .null] [.null, (.ref a1)])) rfl rfl (hb hby d11_11)
  have K5 := Keep.of_wr W5
  have Fw5 := Fld.same W5 C4
  have N5 := Fr.snoc X5 N2 (by omega : @LE.le Nat _ n0 a1)
  have sz2_K5 := K5.1
  have KC6 : Keep h0 h2 [a1] := (Keep.refl h0 [a1]).trans K2 (allS (Or.inl (List.mem_of_getElem? (i := 0) rfl)) (all0))
  have KC7 : Keep h0 h5 [a1] := KC6.trans K5 (allS (Or.inl (List.mem_of_getElem? (i := 0) rfl)) (all0))
  have C8 := C3.keep K5
  obtain ⟨fs, hr, hrun, hended, hW, hsame⟩ := X5.leave (v := none) (fun _ => rfl)
  refine ⟨_, _, pre0 _ ?_, hrun, hended, _, _, rfl, ?_, ⟨_, rfl⟩, hW, hsame.mono (by decide) (by decide)⟩
  · skip
    show Steps p.tables e below (s₁.setTop (mkF m 0 #[.val (.ref a1), .val (.ref a2), .val .null] [])) _
    refine XS.aloadN X0.here hx rfl (hb hby d11_0) rfl rfl ?_
    show Steps p.tables e below (s₁.setTop (mkF m 1 #[.val (.ref a1), .val (.ref a2), .val .null] [(.ref a1)])) _
    refine st1 _ ?_
    show Steps p.tables e below (T1.setTop (mkF m 4 #[.val (.ref a1), .val (.ref a2), .val .null] [])) _
    refine XS.aloadN X1.here hx rfl (hb hby d11_4) rfl rfl ?_
    show Steps p.tables e below (T1.setTop (mkF m 5 #[.val (.ref a1), .val (.ref a2), .val .null] [(.ref a1)])) _
    refine XS.aloadN X1.here hx rfl (hb hby d11_5) rfl rfl ?_
    show Steps p.tables e below (T1.setTop (mkF m 6 #[.val (.ref a1), .val (.ref a2), .val .null] [(.ref a2), (.ref a1)])) _
    refine st2 _ ?_
    show Steps p.tables e below (T2.setTop (mkF m 9 #[.val (.ref a1), .val (.ref a2), .val .null] [])) _
    refine XS.aloadN X2.here hx rfl (hb hby d11_9) rfl rfl ?_
    show Steps p.tables e below (T2.setTop (mkF m 10 #[.val (.ref a1), .val (.ref a2), .val .null] [(.ref a1)])) _
    refine XS.aloadN X2.here hx rfl (hb hby d11_10) rfl rfl ?_
    show Steps p.tables e below (T2.setTop (mkF m 11 #[.val (.ref a1), .val (.ref a2), .val .null] [.null, (.ref a1)])) _
    refine st5 _ ?_
    show Steps p.tables e below (T5.setTop (mkF m 14 #[.val (.ref a1), .val (.ref a2), .val .null] [])) _
    exact X5.returnOut hx Bd.returns (hb hby d11_14) hr
  · show Q_rmEntryN Z a1 a2 h0 n0 _ T5.heap _
    rw [e5]
    exact ⟨rfl, N5, KC7, C8, Fw5⟩
theorem ef_rmEntryA (m : MethodId) (y0 : Addr) (y1 : Addr) (y2 : Addr) : entryFrame m #[(.ref y0), (.ref y1), (.ref y2)] 3 = (mkF m 0 #[.val (.ref y0), .val (.ref y1), .val (.ref y2)] []) := by first | (simp [entryFrame, mkF, argsToLocals, Value.category]; done) | rfl
def Q_rmEntryA (Z : State) (a1 : Addr) (a2 : Addr) (a3 : Addr) (h0 : Heap) (n0 : Nat) (v : Option Value) (h : Heap) (L : List Loc) : Prop := v = none ∧ Fr n0 L ∧ Keep h0 h [a1] ∧ Exa Z h a1 "com/example/links_to_sitemap/linkstositemap/SitemapFileWriter$Entry" ∧ Fld Z h a1 "com/example/links_to_sitemap/linkstositemap/SitemapFileWriter$Entry" "fields" "[Ljava/lang/String;" (.ref a3)
set_option maxRecDepth 65536 in
set_option maxHeartbeats 40000000 in
theorem rmEntryA (l : Launch) (Z : State) (a0 : Array Value) (hw : ∀ d ∈ tables_1, d.before a0 Z = true) (ws : List Jvm.Cond) (a1 : Addr) (a2 : Addr) (a3 : Addr) (h0 : Heap) (n0 : Nat) (O0 : Old Z n0 h0) (g1 : n0 ≤ a1) (E1 : Exa Z h0 a1 "com/example/links_to_sitemap/linkstositemap/SitemapFileWriter$Entry") (F1 : Fld Z h0 a1 "com/example/links_to_sitemap/linkstositemap/SitemapFileWriter$Entry" "loc" "Ljava/lang/String;" .null) (F2 : Fld Z h0 a1 "com/example/links_to_sitemap/linkstositemap/SitemapFileWriter$Entry" "fields" "[Ljava/lang/String;" .null) :
    MetFree l (⟨"com/example/links_to_sitemap/linkstositemap/SitemapFileWriter$Entry", "<init>", "(Ljava/lang/String;[Ljava/lang/String;)V"⟩ : MethodName) (head1 (Jvm.Cond.code (⟨"com/example/links_to_sitemap/linkstositemap/SitemapFileWriter$Entry", "<init>", "(Ljava/lang/String;[Ljava/lang/String;)V"⟩ : MethodName) prog_22_method_2_code 3 none :: ws) ({ frames := 1, cells := 0, slots := 0, locals := 12 } : Room)) (fun a U => a = #[(.ref a1), (.ref a2), (.ref a3)] ∧ Z.Warmed39 U.vm ∧ U.heap = h0) (fun _ _ _ _ _ => True) (fun _ U o U' => ∃ v L, o = .returned v ∧ Q_rmEntryA Z a1 a2 a3 h0 n0 v U'.heap L ∧ FrameEnd U o U' L ({ frames := 1, cells := 0, slots := 0, locals := 12 } : Room).cells ({ frames := 1, cells := 0, slots := 0, locals := 12 } : Room).slots) := by
  refine MetFree.of_bodySF (plainFor_of_name pn_11) hisR ?_
  intro p e s m args below meth c s₁ Bd hml0 hP hK
  obtain ⟨rfl, hZ, hh⟩ := hP
  have hx := Bd.exec
  have hby := Bd.bytes
  have hml : c.maxLocals = 3 := hml0
  have hown : s.vm.findClass "com/example/links_to_sitemap/linkstositemap/SitemapFileWriter$Entry" = some m.cls := findClass_of_methodNamed Bd.named
  have hnm := (name_of_methodNamed Bd.named Bd.method).1
  have X0 : Stand p l e ({ frames := 1, cells := 0, slots := 0, locals := 12 } : Room) s m #[(.ref a1), (.ref a2), (.ref a3)] below meth c s₁ [] 0 0 := Stand.of_body Bd
  have e0 : s₁.heap = h0 := by rw [← hh, Bd.state]; rfl
  have N0 := Fr.nil n0
  have hn0 : n0 ≤ h0.size := O0.1 ▸ O0.2.1
  have pre0 : ∀ t, Steps p.tables e below (s₁.setTop (mkF m 0 #[.val (.ref a1), .val (.ref a2), .val (.ref a3)] [])) t → Steps p.tables e below (s₁.setTop (entryFrame m #[(.ref a1), (.ref a2), (.ref a3)] 3)) t := fun t k => castTop (ef_rmEntryA m a1 a2 a3) k
  have lt_a1 : @LT.lt Nat _ a1 h0.size := E1.lt
  obtain ⟨T1, X1, e1, st1⟩ := initO X0 hx hZ hown (tw hw 54 rfl) (tw hw 20 rfl) (tw hw 21 rfl) e0 (g := (mkF m 1 #[.val (.ref a1), .val (.ref a2), .val (.ref a3)] [(.ref a1)])) rfl (by rw [hml]; rfl) rfl (hb hby d11_1) (by decide) (W := 0) (by show 2 * 0 + _ ≤ _; exact Nat.le_of_eq rfl) (by decide)
  obtain ⟨T2, h2, X2, e2, W2, st2⟩ := putF X1 hx hZ hown (host := "") (Or.inl (tw hw 55 rfl)) Via.refl e1 F1 E1 (Or.inr ⟨(tw hw 56 rfl), rfl, hnm⟩) (tw hw 46 rfl) (ty := (.object "java/lang/String")) (by decide) rfl rfl (g := (mkF m 6 #[.val (.ref a1), .val (.ref a2), .val (.ref a3)] [(.ref a2), (.ref a1)])) rfl rfl (hb hby d11_6)
  have K2 := Keep.of_wr W2
  have Fw2 := Fld.same W2 F1
  have N2 := Fr.snoc X2 N0 (by omega : @LE.le Nat _ n0 a1)
  have sz1_K2 := K2.1
  have C3 := E1.keep K2
  have C4 := Fld.other W2 F2 (Or.inr (slot_ne (Or.inr (tw hw 58 rfl)) (Or.inr (tw hw 56 rfl)) (by decide) (t := (.array (.object "java/lang/String"))) (t' := (.object "java/lang/String")) (by decide) (by decide)))
  obtain ⟨T5, h5, X5, e5, W5, st5⟩ := putF X2 hx hZ hown (host := "") (Or.inl (tw hw 57 rfl)) Via.refl e2 C4 C3 (Or.inr ⟨(tw hw 58 rfl), rfl, hnm⟩) (tw hw 46 rfl) (ty := (.array (.object "java/lang/String"))) (by decide) rfl rfl (g := (mkF m 11 #[.val (.ref a1), .val (.ref a2), .val (.ref a3)] [(.ref a3), (.ref a1)])) rfl rfl (hb hby d11_11)
  have K5 := Keep.of_wr W5
  have Fw5 := Fld.same W5 C4
  have N5 := Fr.snoc X5 N2 (by omega : @LE.le Nat _ n0 a1)
  have sz2_K5 := K5.1
  have KC6 : Keep h0 h2 [a1] := (Keep.refl h0 [a1]).trans K2 (allS (Or.inl (List.mem_of_getElem? (i := 0) rfl)) (all0))
  have KC7 : Keep h0 h5 [a1] := KC6.trans K5 (allS (Or.inl (List.mem_of_getElem? (i := 0) rfl)) (all0))
  have C8 := C3.keep K5
  obtain ⟨fs, hr, hrun, hended, hW, hsame⟩ := X5.leave (v := none) (fun _ => rfl)
  refine ⟨_, _, pre0 _ ?_, hrun, hended, _, _, rfl, ?_, ⟨_, rfl⟩, hW, hsame.mono (by decide) (by decide)⟩
  · skip
    show Steps p.tables e below (s₁.setTop (mkF m 0 #[.val (.ref a1), .val (.ref a2), .val (.ref a3)] [])) _
    refine XS.aloadN X0.here hx rfl (hb hby d11_0) rfl rfl ?_
    show Steps p.tables e below (s₁.setTop (mkF m 1 #[.val (.ref a1), .val (.ref a2), .val (.ref a3)] [(.ref a1)])) _
    refine st1 _ ?_
    show Steps p.tables e below (T1.setTop (mkF m 4 #[.val (.ref a1), .val (.ref a2), .val (.ref a3)] [])) _
    refine XS.aloadN X1.here hx rfl (hb hby d11_4) rfl rfl ?_
    show Steps p.tables e below (T1.setTop (mkF m 5 #[.val (.ref a1), .val (.ref a2), .val (.ref a3)] [(.ref a1)])) _
    refine XS.aloadN X1.here hx rfl (hb hby d11_5) rfl rfl ?_
    show Steps p.tables e below (T1.setTop (mkF m 6 #[.val (.ref a1), .val (.ref a2), .val (.ref a3)] [(.ref a2), (.ref a1)])) _
    refine st2 _ ?_
    show Steps p.tables e below (T2.setTop (mkF m 9 #[.val (.ref a1), .val (.ref a2), .val (.ref a3)] [])) _
    refine XS.aloadN X2.here hx rfl (hb hby d11_9) rfl rfl ?_
    show Steps p.tables e below (T2.setTop (mkF m 10 #[.val (.ref a1), .val (.ref a2), .val (.ref a3)] [(.ref a1)])) _
    refine XS.aloadN X2.here hx rfl (hb hby d11_10) rfl rfl ?_
    show Steps p.tables e below (T2.setTop (mkF m 11 #[.val (.ref a1), .val (.ref a2), .val (.ref a3)] [(.ref a3), (.ref a1)])) _
    refine st5 _ ?_
    show Steps p.tables e below (T5.setTop (mkF m 14 #[.val (.ref a1), .val (.ref a2), .val (.ref a3)] [])) _
    exact X5.returnOut hx Bd.returns (hb hby d11_14) hr
  · show Q_rmEntryA Z a1 a2 a3 h0 n0 _ T5.heap _
    rw [e5]
    exact ⟨rfl, N5, KC7, C8, Fw5⟩
theorem d12_0 : decode prog_22_method_3_code 0 = .ok (.aload_n 0, 1) := by decide +kernel
theorem d12_1 : decode prog_22_method_3_code 1 = .ok (.getfield 16, 3) := by decide +kernel
theorem d12_4 : decode prog_22_method_3_code 4 = .ok (.ifnonnull 7, 3) := by decide +kernel
theorem d12_7 : decode prog_22_method_3_code 7 = .ok (.aconst_null, 1) := by decide +kernel
theorem d12_8 : decode prog_22_method_3_code 8 = .ok (.goto 12, 3) := by decide +kernel
theorem d12_20 : decode prog_22_method_3_code 20 = .ok (.areturn, 1) := by decide +kernel
theorem pn_12 : plainName "com/example/links_to_sitemap/linkstositemap/SitemapFileWriter$Entry" = true := by first | (simp [plainName, overriddenIn]; done) | decide +kernel
theorem ef_rmFieldN (m : MethodId) (y0 : Addr) (y1 : Addr) : entryFrame m #[(.ref y0), (.ref y1)] 2 = (mkF m 0 #[.val (.ref y0), .val (.ref y1)] []) := by first | (simp [entryFrame, mkF, argsToLocals, Value.category]; done) | rfl
def Q_rmFieldN (Z : State) (a1 : Addr) (a2 : Addr) (h0 : Heap) (n0 : Nat) (v : Option Value) (h : Heap) (L : List Loc) : Prop := v = some .null ∧ Fr n0 L ∧ h = h0
set_option maxRecDepth 65536 in
set_option maxHeartbeats 40000000 in
theorem rmFieldN (l : Launch) (Z : State) (a0 : Array Value) (hw : ∀ d ∈ tables_1, d.before a0 Z = true) (ws : List Jvm.Cond) (a1 : Addr) (a2 : Addr) (h0 : Heap) (n0 : Nat) (O0 : Old Z n0 h0) (F1 : Fld Z h0 a1 "com/example/links_to_sitemap/linkstositemap/SitemapFileWriter$Entry" "fields" "[Ljava/lang/String;" .null) :
    MetFree l (⟨"com/example/links_to_sitemap/linkstositemap/SitemapFileWriter$Entry", "field", "(Lcom/example/links_to_sitemap/linkstositemap/LinkField;)Ljava/lang/String;"⟩ : MethodName) (head1 (Jvm.Cond.code (⟨"com/example/links_to_sitemap/linkstositemap/SitemapFileWriter$Entry", "field", "(Lcom/example/links_to_sitemap/linkstositemap/LinkField;)Ljava/lang/String;"⟩ : MethodName) prog_22_method_3_code 2 (some (.object "java/lang/String")) :: ws) ({ frames := 0, cells := 0, slots := 0, locals := 0 } : Room)) (fun a U => a = #[(.ref a1), (.ref a2)] ∧ Z.Warmed39 U.vm ∧ U.heap = h0) (fun _ _ _ _ _ => True) (fun _ U o U' => ∃ v L, o = .returned v ∧ Q_rmFieldN Z a1 a2 h0 n0 v U'.heap L ∧ FrameEnd U o U' L ({ frames := 0, cells := 0, slots := 0, locals := 0 } : Room).cells ({ frames := 0, cells := 0, slots := 0, locals := 0 } : Room).slots) := by
  refine MetFree.of_bodySF (plainFor_of_name pn_12) hisR ?_
  intro p e s m args below meth c s₁ Bd hml0 hP hK
  obtain ⟨rfl, hZ, hh⟩ := hP
  have hx := Bd.exec
  have hby := Bd.bytes
  have hml : c.maxLocals = 2 := hml0
  have hown : s.vm.findClass "com/example/links_to_sitemap/linkstositemap/SitemapFileWriter$Entry" = some m.cls := findClass_of_methodNamed Bd.named
  have hnm := (name_of_methodNamed Bd.named Bd.method).1
  have X0 : Stand p l e ({ frames := 0, cells := 0, slots := 0, locals := 0 } : Room) s m #[(.ref a1), (.ref a2)] below meth c s₁ [] 0 0 := Stand.of_body Bd
  have e0 : s₁.heap = h0 := by rw [← hh, Bd.state]; rfl
  have N0 := Fr.nil n0
  have hn0 : n0 ≤ h0.size := O0.1 ▸ O0.2.1
  have pre0 : ∀ t, Steps p.tables e below (s₁.setTop (mkF m 0 #[.val (.ref a1), .val (.ref a2)] [])) t → Steps p.tables e below (s₁.setTop (entryFrame m #[(.ref a1), (.ref a2)] 2)) t := fun t k => castTop (ef_rmFieldN m a1 a2) k
  obtain ⟨T1, X1, e1, st1⟩ := getF X0 hx hZ hown (host := "") (Or.inl (tw hw 57 rfl)) Via.refl e0 F1 (g := (mkF m 1 #[.val (.ref a1), .val (.ref a2)] [(.ref a1)])) rfl rfl (hb hby d12_1)
  obtain ⟨fs, hr, hrun, hended, hW, hsame⟩ := X1.leave (v := some .null) (fun h => by rw [Bd.returns] at h; cases h)
  refine ⟨_, _, pre0 _ ?_, hrun, hended, _, _, rfl, ?_, ⟨_, rfl⟩, hW, hsame.mono (by decide) (by decide)⟩
  · skip
    show Steps p.tables e below (s₁.setTop (mkF m 0 #[.val (.ref a1), .val (.ref a2)] [])) _
    refine XS.aloadN X0.here hx rfl (hb hby d12_0) rfl rfl ?_
    show Steps p.tables e below (s₁.setTop (mkF m 1 #[.val (.ref a1), .val (.ref a2)] [(.ref a1)])) _
    refine st1 _ ?_
    show Steps p.tables e below (T1.setTop (mkF m 4 #[.val (.ref a1), .val (.ref a2)] [.null])) _
    refine XS.ifnonnullNo X1.here hx rfl (hb hby d12_4) rfl ?_
    show Steps p.tables e below (T1.setTop (mkF m 7 #[.val (.ref a1), .val (.ref a2)] [])) _
    refine XS.aconstNull X1.here hx rfl (hb hby d12_7) ?_
    show Steps p.tables e below (T1.setTop (mkF m 8 #[.val (.ref a1), .val (.ref a2)] [.null])) _
    refine XS.goto X1.here hx rfl (pc0 := 8) (pc' := 20) rfl (hb hby d12_8) (by decide) (by decide) ?_
    show Steps p.tables e below (T1.setTop (mkF m 20 #[.val (.ref a1), .val (.ref a2)] [.null])) _
    exact X1.areturnOut hx rfl Bd.returns rfl (hb hby d12_20) hr
  · show Q_rmFieldN Z a1 a2 h0 n0 _ T1.heap _
    rw [e1]
    exact ⟨rfl, N0, rfl⟩
theorem d12_11 : decode prog_22_method_3_code 11 = .ok (.aload_n 0, 1) := by decide +kernel
theorem d12_12 : decode prog_22_method_3_code 12 = .ok (.getfield 16, 3) := by decide +kernel
theorem d12_15 : decode prog_22_method_3_code 15 = .ok (.aload_n 1, 1) := by decide +kernel
theorem d12_16 : decode prog_22_method_3_code 16 = .ok (.invokevirtual 20, 3) := by decide +kernel
theorem d12_19 : decode prog_22_method_3_code 19 = .ok (.aaload, 1) := by decide +kernel
theorem pd_12 : parseMethodDescriptor "()I" = some ⟨[], some .int⟩ := by decide +kernel
theorem ef_rmFieldA (m : MethodId) (y0 : Addr) (y1 : Addr) : entryFrame m #[(.ref y0), (.ref y1)] 2 = (mkF m 0 #[.val (.ref y0), .val (.ref y1)] []) := by first | (simp [entryFrame, mkF, argsToLocals, Value.category]; done) | rfl
def Q_rmFieldA (Z : State) (a1 : Addr) (a2 : Addr) (a3 : Addr) (k3 : ClassId) (vs : List Value) (ev : Value) (i : Int32) (h0 : Heap) (n0 : Nat) (v : Option Value) (h : Heap) (L : List Loc) : Prop := v = some ev ∧ Fr n0 L ∧ h = h0
set_option maxRecDepth 65536 in
set_option maxHeartbeats 40000000 in
theorem rmFieldA (l : Launch) (Z : State) (a0 : Array Value) (hw : ∀ d ∈ tables_1, d.before a0 Z = true) (ws : List Jvm.Cond) (a1 : Addr) (a2 : Addr) (a3 : Addr) (k3 : ClassId) (vs : List Value) (ev : Value) (i : Int32) (h0 : Heap) (n0 : Nat) (O0 : Old Z n0 h0) (F1 : Fld Z h0 a1 "com/example/links_to_sitemap/linkstositemap/SitemapFileWriter$Entry" "fields" "[Ljava/lang/String;" (.ref a3)) (V3 : Arv Z h0 a3 k3 (.object "java/lang/String") (3 : Int32) vs .null) (E2 : Exa Z h0 a2 "com/example/links_to_sitemap/linkstositemap/LinkField") (F2 : Fld Z h0 a2 "java/lang/Enum" "ordinal" "I" (.int i)) (hi0 : ¬ (i < (0 : Int32))) (hi3 : i < (3 : Int32)) (hat : vs.getD i.toNatClampNeg .null = ev) (hev : ev.isRef = true) :
    MetFree l (⟨"com/example/links_to_sitemap/linkstositemap/SitemapFileWriter$Entry", "field", "(Lcom/example/links_to_sitemap/linkstositemap/LinkField;)Ljava/lang/String;"⟩ : MethodName) (head1 (Jvm.Cond.code (⟨"com/example/links_to_sitemap/linkstositemap/SitemapFileWriter$Entry", "field", "(Lcom/example/links_to_sitemap/linkstositemap/LinkField;)Ljava/lang/String;"⟩ : MethodName) prog_22_method_3_code 2 (some (.object "java/lang/String")) :: ws) ({ frames := 1, cells := 0, slots := 0, locals := 20 } : Room)) (fun a U => a = #[(.ref a1), (.ref a2)] ∧ Z.Warmed39 U.vm ∧ U.heap = h0) (fun _ _ _ _ _ => True) (fun _ U o U' => ∃ v L, o = .returned v ∧ Q_rmFieldA Z a1 a2 a3 k3 vs ev i h0 n0 v U'.heap L ∧ FrameEnd U o U' L ({ frames := 1, cells := 0, slots := 0, locals := 20 } : Room).cells ({ frames := 1, cells := 0, slots := 0, locals := 20 } : Room).slots) := by
  refine MetFree.of_bodySF (plainFor_of_name pn_12) hisR ?_
  intro p e s m args below meth c s₁ Bd hml0 hP hK
  obtain ⟨rfl, hZ, hh⟩ := hP
  have hx := Bd.exec
  have hby := Bd.bytes
  have hml : c.maxLocals = 2 := hml0
  have hown : s.vm.findClass "com/example/links_to_sitemap/linkstositemap/SitemapFileWriter$Entry" = some m.cls := findClass_of_methodNamed Bd.named
  have hnm := (name_of_methodNamed Bd.named Bd.method).1
  have X0 : Stand p l e ({ frames := 1, cells := 0, slots := 0, locals := 20 } : Room) s m #[(.ref a1), (.ref a2)] below meth c s₁ [] 0 0 := Stand.of_body Bd
  have e0 : s₁.heap = h0 := by rw [← hh, Bd.state]; rfl
  have N0 := Fr.nil n0
  have hn0 : n0 ≤ h0.size := O0.1 ▸ O0.2.1
  have pre0 : ∀ t, Steps p.tables e below (s₁.setTop (mkF m 0 #[.val (.ref a1), .val (.ref a2)] [])) t → Steps p.tables e below (s₁.setTop (entryFrame m #[(.ref a1), (.ref a2)] 2)) t := fun t k => castTop (ef_rmFieldA m a1 a2) k
  obtain ⟨T1, X1, e1, st1⟩ := getF X0 hx hZ hown (host := "") (Or.inl (tw hw 57 rfl)) Via.refl e0 F1 (g := (mkF m 1 #[.val (.ref a1), .val (.ref a2)] [(.ref a1)])) rfl rfl (hb hby d12_1)
  obtain ⟨T2, X2, e2, st2⟩ := getF X1 hx hZ hown (host := "") (Or.inl (tw hw 57 rfl)) Via.refl e1 F1 (g := (mkF m 12 #[.val (.ref a1), .val (.ref a2)] [(.ref a1)])) rfl rfl (hb hby d12_12)
  obtain ⟨cq3, kq3, q3a, q3b, q3c⟩ := isOf hZ e2 E2
  obtain ⟨_, _, ⟨T3, L3, k3, n3⟩, -, X3, ⟨Lc3, hQ3, l3, y3, z3⟩, st3⟩ := X2.virtualBackUp hx (owner := "java/lang/Enum") (x := (⟨"com/example/links_to_sitemap/linkstositemap/LinkField", "ordinal", "()I"⟩ : MethodName)) (y := (⟨"java/lang/Enum", "ordinal", "()I"⟩ : MethodName)) hown (mvT hZ (tw hw 67 rfl)) (mvT hZ (tw hw 68 rfl)) (mvT hZ (tw hw 69 rfl)) (by decide) (mvT hZ (tw hw 71 rfl)) (mvT hZ (tw hw 70 rfl)) (backOf (W := 1) (rm13 l Z a0 hw [] a2 i h0 n0 O0 F2) hZ (tw hw 73 rfl) (tw hw 72 rfl) (by decide) (by decide)) q3a q3c (g := (mkF m 16 #[.val (.ref a1), .val (.ref a2)] [(.ref a2), (.ref a3)])) rfl (by rw [hml]; rfl) (Steps.refl _) (argsL := []) (rest := [(.ref a3)]) (lenOf pd_12 rfl) rfl (by show 2 * 0 + _ ≤ _; exact Nat.le_of_eq rfl) (hb hby d12_16) (fun _ _ => ⟨rfl, e2, (by decide : 0 + 0 ≤ _), (by decide : 0 + 0 ≤ _)⟩)
  dsimp only [Pt.U, Pt.locs, Pt.cells, Pt.slots] at X3 l3 y3 z3 st3 hQ3
  subst l3 y3 z3
  obtain ⟨rfl, N3q, H3⟩ := hQ3
  have N3 := Fr.app N0 N3q
  obtain ⟨cl4, Ar4, q4, S4, Nn4, H4, G4⟩ := V3
  have hat4 : cl4.slots[(i).toNatClampNeg]? = some ev := (Has.at H4 (inb_of S4 ⟨hi0, hi3⟩) hat)
  obtain ⟨fs, hr, hrun, hended, hW, hsame⟩ := X3.leave (v := some ev) (fun h => by rw [Bd.returns] at h; cases h)
  refine ⟨_, _, pre0 _ ?_, hrun, hended, _, _, rfl, ?_, ⟨_, rfl⟩, hW, hsame.mono (by decide) (by decide)⟩
  · skip
    show Steps p.tables e below (s₁.setTop (mkF m 0 #[.val (.ref a1), .val (.ref a2)] [])) _
    refine XS.aloadN X0.here hx rfl (hb hby d12_0) rfl rfl ?_
    show Steps p.tables e below (s₁.setTop (mkF m 1 #[.val (.ref a1), .val (.ref a2)] [(.ref a1)])) _
    refine st1 _ ?_
    show Steps p.tables e below (T1.setTop (mkF m 4 #[.val (.ref a1), .val (.ref a2)] [(.ref a3)])) _
    refine XS.ifnonnullYes X1.here hx rfl (pc0 := 4) (pc' := 11) rfl (hb hby d12_4) rfl (by decide) (by decide) ?_
    show Steps p.tables e below (T1.setTop (mkF m 11 #[.val (.ref a1), .val (.ref a2)] [])) _
    refine XS.aloadN X1.here hx rfl (hb hby d12_11) rfl rfl ?_
    show Steps p.tables e below (T1.setTop (mkF m 12 #[.val (.ref a1), .val (.ref a2)] [(.ref a1)])) _
    refine st2 _ ?_
    show Steps p.tables e below (T2.setTop (mkF m 15 #[.val (.ref a1), .val (.ref a2)] [(.ref a3)])) _
    refine XS.aloadN X2.here hx rfl (hb hby d12_15) rfl rfl ?_
    show Steps p.tables e below (T2.setTop (mkF m 16 #[.val (.ref a1), .val (.ref a2)] [(.ref a2), (.ref a3)])) _
    refine st3.trans ?_
    show Steps p.tables e below (T3.setTop (mkF m 19 #[.val (.ref a1), .val (.ref a2)] [(.int i), (.ref a3)])) _
    refine X3.aaload hx (j := i) (v := ev) (by rw [H3]; exact Ar4.1) (State.isArrayOf_alike hZ.alike Ar4.2.1) rfl Ar4.2.2 (inb_of S4 ⟨hi0, hi3⟩) hat4 (g := (mkF m 19 #[.val (.ref a1), .val (.ref a2)] [(.int i), (.ref a3)])) rfl rfl (hb hby d12_19) _ ?_
    show Steps p.tables e below (T3.setTop (mkF m 20 #[.val (.ref a1), .val (.ref a2)] [ev])) _
    exact X3.areturnOut hx hev Bd.returns rfl (hb hby d12_20) hr
  · show Q_rmFieldA Z a1 a2 a3 k3 vs ev i h0 n0 _ T3.heap _
    rw [H3]
    exact ⟨rfl, N3, rfl⟩
theorem pn_0 : plainName "com/example/links_to_sitemap/linkstositemap/EntryFieldPinLaw" = true := by first | (simp [plainName, overriddenIn]; done) | decide +kernel
theorem pd_0 : parseMethodDescriptor "(C)Ljava/lang/String;" = some ⟨[.char], some (.object "java/lang/String")⟩ := by decide +kernel
theorem pd_5 : parseMethodDescriptor "([C)V" = some ⟨[(.array .char)], none⟩ := by decide +kernel
theorem pd_10 : parseMethodDescriptor "(Ljava/lang/String;[Ljava/lang/String;)V" = some ⟨[(.object "java/lang/String"), (.array (.object "java/lang/String"))], none⟩ := by decide +kernel
theorem pd_11 : parseMethodDescriptor "(Lcom/example/links_to_sitemap/linkstositemap/LinkField;)Ljava/lang/String;" = some ⟨[(.object "com/example/links_to_sitemap/linkstositemap/LinkField")], some (.object "java/lang/String")⟩ := by decide +kernel
theorem pd_13 : parseMethodDescriptor "(Ljava/lang/String;Ljava/lang/String;)Z" = some ⟨[(.object "java/lang/String"), (.object "java/lang/String")], some .boolean⟩ := by decide +kernel
theorem ef_rm0 (m : MethodId) (y0 : Int32) (y1 : Int32) (y2 : Int32) (y3 : Int32) : entryFrame m #[(.int y0), (.int y1), (.int y2), (.int y3)] maxLocals = (mkF m 0 #[.val (.int y0), .val (.int y1), .val (.int y2), .val (.int y3), .unset, .unset, .unset, .unset, .unset, .unset, .unset, .unset, .unset] []) := by first | (simp [entryFrame, mkF, argsToLocals, Value.category, maxLocals]; done) | rfl
def Q_rm0 (Z : State) (p1 : Int32) (p2 : Int32) (p3 : Int32) (p4 : Int32) (cs : Int32) (lf0 : Addr) (lf1 : Addr) (lf2 : Addr) (h0 : Heap) (n0 : Nat) (v : Option Value) (h : Heap) (L : List Loc) : Prop := v = some (.int (1 : Int32)) ∧ Fr n0 L
set_option maxRecDepth 65536 in
set_option maxHeartbeats 40000000 in
theorem rm0 (l : Launch) (Z : State) (a0 : Array Value) (hw : ∀ d ∈ tables_1, d.before a0 Z = true) (ws : List Jvm.Cond) (p1 : Int32) (p2 : Int32) (p3 : Int32) (p4 : Int32) (cs : Int32) (lf0 : Addr) (lf1 : Addr) (lf2 : Addr) (h0 : Heap) (n0 : Nat) (O0 : Old Z n0 h0) (S_CS : Sta Z Z.heap "java/lang/String" "COMPACT_STRINGS" "Z" (.int cs)) (c_CS : ¬ (cs = (0 : Int32))) (S_0 : Sta Z Z.heap "com/example/links_to_sitemap/linkstositemap/LinkField" "LASTMOD" "Lcom/example/links_to_sitemap/linkstositemap/LinkField;" (.ref lf0)) (E_0 : Exa Z h0 lf0 "com/example/links_to_sitemap/linkstositemap/LinkField") (F_0 : Fld Z h0 lf0 "java/lang/Enum" "ordinal" "I" (.int (0 : Int32))) (S_1 : Sta Z Z.heap "com/example/links_to_sitemap/linkstositemap/LinkField" "CHANGEFREQ" "Lcom/example/links_to_sitemap/linkstositemap/LinkField;" (.ref lf1)) (E_1 : Exa Z h0 lf1 "com/example/links_to_sitemap/linkstositemap/LinkField") (F_1 : Fld Z h0 lf1 "java/lang/Enum" "ordinal" "I" (.int (1 : Int32))) (S_2 : Sta Z Z.heap "com/example/links_to_sitemap/linkstositemap/LinkField" "PRIORITY" "Lcom/example/links_to_sitemap/linkstositemap/LinkField;" (.ref lf2)) (E_2 : Exa Z h0 lf2 "com/example/links_to_sitemap/linkstositemap/LinkField") (F_2 : Fld Z h0 lf2 "java/lang/Enum" "ordinal" "I" (.int (2 : Int32))) :
    MetFree l x (head1 (Jvm.Cond.code x code maxLocals ret :: ws) room_1) (fun a U => a = #[(.int p1), (.int p2), (.int p3), (.int p4)] ∧ Z.Warmed39 U.vm ∧ U.heap = h0) (fun _ _ _ _ _ => True) (fun _ U o U' => ∃ v L, o = .returned v ∧ Q_rm0 Z p1 p2 p3 p4 cs lf0 lf1 lf2 h0 n0 v U'.heap L ∧ ReturnedEndW U o U' L room_1.cells room_1.slots) := by
  refine MetFree.of_bodySF (plainFor_of_name pn_0) hisR ?_
  intro p e s m args below meth c s₁ Bd hml0 hP hK
  obtain ⟨rfl, hZ, hh⟩ := hP
  have hx := Bd.exec
  have hby := Bd.bytes
  have hml : c.maxLocals = 13 := hml0
  have hown : s.vm.findClass "com/example/links_to_sitemap/linkstositemap/EntryFieldPinLaw" = some m.cls := findClass_of_methodNamed Bd.named
  have hnm := (name_of_methodNamed Bd.named Bd.method).1
  have X0 : Stand p l e room_1 s m #[(.int p1), (.int p2), (.int p3), (.int p4)] below meth c s₁ [] 0 0 := Stand.of_body Bd
  have e0 : s₁.heap = h0 := by rw [← hh, Bd.state]; rfl
  have N0 := Fr.nil n0
  have hn0 : n0 ≤ h0.size := O0.1 ▸ O0.2.1
  have hS0 : s.Since s.vm h0.size := (State.WarmedH.refl s).since _
  have pre0 : ∀ t, Steps p.tables e below (s₁.setTop (mkF m 0 #[.val (.int p1), .val (.int p2), .val (.int p3), .val (.int p4), .unset, .unset, .unset, .unset, .unset, .unset, .unset, .unset, .unset] [])) t → Steps p.tables e below (s₁.setTop (entryFrame m #[(.int p1), (.int p2), (.int p3), (.int p4)] maxLocals)) t := fun t k => castTop (ef_rm0 m p1 p2 p3 p4) k
  have wStr : ∀ d ∈ Bundle.stringAtoms, d.before a0 Z = true := fun d hd => hw d ((by decide +kernel : ∀ d ∈ Bundle.stringAtoms, d ∈ tables_1) d hd)
  have hws : ∀ d ∈ StrChars.Road.words, d.before a0 Z = true := fun d hd => hw d ((by decide +kernel : ∀ d ∈ StrChars.Road.words, d ∈ tables_1) d hd)
  have lt_lf0 : @LT.lt Nat _ lf0 h0.size := E_0.lt
  have lt_lf1 : @LT.lt Nat _ lf1 h0.size := E_1.lt
  have lt_lf2 : @LT.lt Nat _ lf2 h0.size := E_2.lt
  have pre2 : ∀ t, Steps p.tables e below (s₁.setTop (mkF m 3 #[.val (.int p1), .val (.int p2), .val (.int p3), .val (.int p4), .unset, .unset, .unset, .unset, .unset, .unset, .unset, .unset, .unset] [(.int (p1 &&& (1 : Int32)))])) t → Steps p.tables e below (s₁.setTop (entryFrame m #[(.int p1), (.int p2), (.int p3), (.int p4)] maxLocals)) t := by
    intro t kt
    refine pre0 _ ?_
    show Steps p.tables e below (s₁.setTop (mkF m 0 #[.val (.int p1), .val (.int p2), .val (.int p3), .val (.int p4), .unset, .unset, .unset, .unset, .unset, .unset, .unset, .unset, .unset] [])) _
    refine XS.iloadN X0.here hx rfl (hb hby at_0) rfl ?_
    show Steps p.tables e below (s₁.setTop (mkF m 1 #[.val (.int p1), .val (.int p2), .val (.int p3), .val (.int p4), .unset, .unset, .unset, .unset, .unset, .unset, .unset, .unset, .unset] [(.int p1)])) _
    refine XS.iconst X0.here hx rfl (hb hby at_1) ?_
    show Steps p.tables e below (s₁.setTop (mkF m 2 #[.val (.int p1), .val (.int p2), .val (.int p3), .val (.int p4), .unset, .unset, .unset, .unset, .unset, .unset, .unset, .unset, .unset] [(.int (1 : Int32)), (.int p1)])) _
    refine XS.iand X0.here hx rfl (hb hby at_2) rfl ?_
    exact kt
  by_cases hc1 : (p1 &&& (1 : Int32)) = (0 : Int32)
  · skip
    obtain ⟨_, _, ⟨T3, L3, k3, n3⟩, -, X3, ⟨Lc3, hQ3, l3, y3, z3⟩, st3⟩ := Jvm.LawKit.callS X0 hx (y := (⟨"java/lang/String", "valueOf", "(C)Ljava/lang/String;"⟩ : MethodName)) hown (mvT hZ (tw hw 0 rfl)) (mvT hZ (tw hw 1 rfl)) (mvT hZ (tw hw 2 rfl)) (mvT hZ (tw hw 3 rfl)) (by decide) (backOf (W := 0) (rm1 l Z a0 hw [] ((p2 &&& (255 : Int32)).toUInt32.toUInt16.toUInt32.toInt32) cs h0 n0 O0 S_CS c_CS (own_byte1 _).2) hZ (tw hw 3 rfl) (tw hw 2 rfl) (by decide) (by decide)) (g := (mkF m 16 #[.val (.int p1), .val (.int p2), .val (.int p3), .val (.int p4), .unset, .unset, .unset, .unset, .unset, .unset, .unset, .unset, .unset] [(.int ((p2 &&& (255 : Int32)).toUInt32.toUInt16.toUInt32.toInt32))])) rfl (by rw [hml]; rfl) (argsL := [(.int ((p2 &&& (255 : Int32)).toUInt32.toUInt16.toUInt32.toInt32))]) (rest := []) (lenOf pd_0 rfl) rfl (by show 2 * 0 + _ ≤ _; exact Nat.le_of_eq rfl) (hb hby at_16) (fun _ _ => ⟨rfl, e0, (by decide : 0 + 2 ≤ _), (by decide : 0 + 5 ≤ _)⟩)
    dsimp only [Pt.U, Pt.locs, Pt.cells, Pt.slots] at X3 l3 y3 z3 st3 hQ3
    subst l3 y3 z3
    obtain ⟨x3, t3, kb3, rfl, N3q, K3, gx3, gt3, tx3, E3, C3, F3, V3⟩ := hQ3
    have ltx3 : @LT.lt Nat _ x3 T3.heap.size := E3.lt
    have ltt3 : @LT.lt Nat _ t3 T3.heap.size := V3.lt
    have sz1_K3 := K3.1
    have N3 := Fr.app N0 N3q
    have pre5 : ∀ t, Steps p.tables e below (T3.setTop (mkF m 24 #[.val (.int p1), .val (.int p2), .val (.int p3), .val (.int p4), .val (.ref x3), .unset, .unset, .unset, .unset, .unset, .unset, .unset, .unset] [(.int (p1 &&& (2 : Int32)))])) t → Steps p.tables e below (s₁.setTop (entryFrame m #[(.int p1), (.int p2), (.int p3), (.int p4)] maxLocals)) t := by
      intro t kt
      refine pre2 _ ?_
      show Steps p.tables e below (s₁.setTop (mkF m 3 #[.val (.int p1), .val (.int p2), .val (.int p3), .val (.int p4), .unset, .unset, .unset, .unset, .unset, .unset, .unset, .unset, .unset] [(.int (p1 &&& (1 : Int32)))])) _
      refine XS.ifYes X0.here hx rfl (pc0 := 3) (pc' := 10) rfl (hb hby at_3) rfl ((if0 _ _).trans (teq hc1).1) (by decide) (by decide) ?_
      show Steps p.tables e below (s₁.setTop (mkF m 10 #[.val (.int p1), .val (.int p2), .val (.int p3), .val (.int p4), .unset, .unset, .unset, .unset, .unset, .unset, .unset, .unset, .unset] [])) _
      refine XS.iloadN X0.here hx rfl (hb hby at_10) rfl ?_
      show Steps p.tables e below (s₁.setTop (mkF m 11 #[.val (.int p1), .val (.int p2), .val (.int p3), .val (.int p4), .unset, .unset, .unset, .unset, .unset, .unset, .unset, .unset, .unset] [(.int p2)])) _
      refine XS.sipush X0.here hx rfl (hb hby at_11) ?_
      show Steps p.tables e below (s₁.setTop (mkF m 14 #[.val (.int p1), .val (.int p2), .val (.int p3), .val (.int p4), .unset, .unset, .unset, .unset, .unset, .unset, .unset, .unset, .unset] [(.int (255 : Int32)), (.int p2)])) _
      refine XS.iand X0.here hx rfl (hb hby at_14) rfl ?_
      show Steps p.tables e below (s₁.setTop (mkF m 15 #[.val (.int p1), .val (.int p2), .val (.int p3), .val (.int p4), .unset, .unset, .unset, .unset, .unset, .unset, .unset, .unset, .unset] [(.int (p2 &&& (255 : Int32)))])) _
      refine XS.i2c X0.here hx rfl (hb hby at_15) rfl ?_
      show Steps p.tables e below (s₁.setTop (mkF m 16 #[.val (.int p1), .val (.int p2), .val (.int p3), .val (.int p4), .unset, .unset, .unset, .unset, .unset, .unset, .unset, .unset, .unset] [(.int ((p2 &&& (255 : Int32)).toUInt32.toUInt16.toUInt32.toInt32))])) _
      refine st3 _ ?_
      show Steps p.tables e below (T3.setTop (mkF m 19 #[.val (.int p1), .val (.int p2), .val (.int p3), .val (.int p4), .unset, .unset, .unset, .unset, .unset, .unset, .unset, .unset, .unset] [(.ref x3)])) _
      refine XS.astore X3.here hx rfl (hb hby at_19) rfl rfl (l' := #[.val (.int p1), .val (.int p2), .val (.int p3), .val (.int p4), .val (.ref x3), .unset, .unset, .unset, .unset, .unset, .unset, .unset, .unset]) rfl ?_
      show Steps p.tables e below (T3.setTop (mkF m 21 #[.val (.int p1), .val (.int p2), .val (.int p3), .val (.int p4), .val (.ref x3), .unset, .unset, .unset, .unset, .unset, .unset, .unset, .unset] [])) _
      refine XS.iloadN X3.here hx rfl (hb hby at_21) rfl ?_
      show Steps p.tables e below (T3.setTop (mkF m 22 #[.val (.int p1), .val (.int p2), .val (.int p3), .val (.int p4), .val (.ref x3), .unset, .unset, .unset, .unset, .unset, .unset, .unset, .unset] [(.int p1)])) _
      refine XS.iconst X3.here hx rfl (hb hby at_22) ?_
      show Steps p.tables e below (T3.setTop (mkF m 23 #[.val (.int p1), .val (.int p2), .val (.int p3), .val (.int p4), .val (.ref x3), .unset, .unset, .unset, .unset, .unset, .unset, .unset, .unset] [(.int (2 : Int32)), (.int p1)])) _
      refine XS.iand X3.here hx rfl (hb hby at_23) rfl ?_
      exact kt
    by_cases hc4 : (p1 &&& (2 : Int32)) = (0 : Int32)
    · skip
      obtain ⟨T6, h6, X6, e6, E6, A6, D6, -, st6⟩ := newO X3 hx hZ hown (tw hw 26 rfl) (tw hw 10 rfl) (tw hw 2 rfl) rfl (g := (mkF m 31 #[.val (.int p1), .val (.int p2), .val (.int p3), .val (.int p4), .val (.ref x3), .unset, .unset, .unset, .unset, .unset, .unset, .unset, .unset] [])) rfl (hb hby at_31) (by decide) (by decide)
      obtain ⟨b6, g6⟩ : ∃ z, z = T3.heap.size := ⟨_, rfl⟩
      rw [← g6] at A6 D6 st6
      have lt6 : @LT.lt Nat _ b6 h6.size := A6.lt
      have K6 : Keep T3.heap h6 [] := (Keep.refl _ _).ext E6
      have sz2_K6 := K6.1
      have F6_value : Fld Z h6 b6 "java/lang/String" "value" "[B" .null := D6 (Or.inr (tw hw 23 rfl)) (ty := (.array .byte)) (by decide)
      have F6_coder : Fld Z h6 b6 "java/lang/String" "coder" "B" (.int (0 : Int32)) := D6 (Or.inr (tw hw 25 rfl)) (ty := .byte) (by decide)
      obtain ⟨T7, h7, k7, X7, e7, E7, A7, st7⟩ := newP X6 hx hZ (tw hw 27 rfl) e6 (g := (mkF m 36 #[.val (.int p1), .val (.int p2), .val (.int p3), .val (.int p4), .val (.ref x3), .unset, .unset, .unset, .unset, .unset, .unset, .unset, .unset] [(.int (2 : Int32)), (.ref b6), (.ref b6)])) rfl (hb hby at_36) rfl (by decide) (cap := 2) (by decide) (by decide) (by decide) (by decide)
      obtain ⟨b7, g7⟩ : ∃ z, z = h6.size := ⟨_, rfl⟩
      rw [← g7] at A7 st7
      have V7 : Arv Z h7 b7 k7 .char (2 : Int32) [(.int (0 : Int32)), (.int (0 : Int32))] (.int (0 : Int32)) := (Arv.new A7 (by decide)).pad (pad_rep [] (.int (0 : Int32)) 2)
      have lt7 : @LT.lt Nat _ b7 h7.size := V7.lt
      have K7 : Keep h6 h7 [] := (Keep.refl _ _).ext E7
      have sz3_K7 := K7.1
      obtain ⟨cl8, Ar8, q8, S8, Nn8, H8, G8⟩ := V7
      obtain ⟨T9, h9, X9, e9, W9, st9⟩ := stC X7 hx hZ e7 Ar8 (j := (0 : Int32)) (inb_of S8 ⟨by decide, by decide⟩) (g := (mkF m 46 #[.val (.int p1), .val (.int p2), .val (.int p3), .val (.int p4), .val (.ref x3), .unset, .unset, .unset, .unset, .unset, .unset, .unset, .unset] [(.int ((p3 &&& (255 : Int32)).toUInt32.toUInt16.toUInt32.toInt32)), (.int (0 : Int32)), (.ref b7), (.ref b7), (.ref b6), (.ref b6)])) rfl rfl (hb hby at_46)
      have V9 : Arv Z h9 b7 k7 .char (2 : Int32) [(.int (((p3 &&& (255 : Int32)).toUInt32.toUInt16.toUInt32.toInt32).toUInt32.toUInt16.toUInt32.toInt32)), (.int (0 : Int32))] (.int (0 : Int32)) := Arv.set Ar8 q8 S8 Nn8 H8 G8 (fits_nar_char _) W9 0 rfl (Nat.le_of_ble_eq_true rfl)
      have K9 := Keep.of_wr W9
      have N9 := Fr.snoc X9 N3 (by omega : @LE.le Nat _ n0 b7)
      have sz4_K9 := K9.1
      obtain ⟨cl10, Ar10, q10, S10, Nn10, H10, G10⟩ := V9
      obtain ⟨T11, h11, X11, e11, W11, st11⟩ := stC X9 hx hZ e9 Ar10 (j := (1 : Int32)) (inb_of S10 ⟨by decide, by decide⟩) (g := (mkF m 58 #[.val (.int p1), .val (.int p2), .val (.int p3), .val (.int p4), .val (.ref x3), .unset, .unset, .unset, .unset, .unset, .unset, .unset, .unset] [(.int ((((p3.toUInt32 >>> ((8 : Int32) &&& 31).toUInt32).toInt32) &&& (255 : Int32)).toUInt32.toUInt16.toUInt32.toInt32)), (.int (1 : Int32)), (.ref b7), (.ref b7), (.ref b6), (.ref b6)])) rfl rfl (hb hby at_58)
      have V11 : Arv Z h11 b7 k7 .char (2 : Int32) [(.int (((p3 &&& (255 : Int32)).toUInt32.toUInt16.toUInt32.toInt32).toUInt32.toUInt16.toUInt32.toInt32)), (.int (((((p3.toUInt32 >>> ((8 : Int32) &&& 31).toUInt32).toInt32) &&& (255 : Int32)).toUInt32.toUInt16.toUInt32.toInt32).toUInt32.toUInt16.toUInt32.toInt32))] (.int (0 : Int32)) := Arv.set Ar10 q10 S10 Nn10 H10 G10 (fits_nar_char _) W11 1 rfl (Nat.le_of_ble_eq_true rfl)
      have K11 := Keep.of_wr W11
      have N11 := Fr.snoc X11 N9 (by omega : @LE.le Nat _ n0 b7)
      have sz5_K11 := K11.1
      have C13 := A6.keep K7
      have C14 := C13.keep K9
      have C15 := C14.keep K11
      have C16 := F6_value.keep K7 nin0
      have C17 := C16.keep K9 (ninS (by omega : @Ne Nat b6 b7) (nin0))
      have C18 := C17.keep K11 (ninS (by omega : @Ne Nat b6 b7) (nin0))
      have C19 := F6_coder.keep K7 nin0
      have C20 := C19.keep K9 (ninS (by omega : @Ne Nat b6 b7) (nin0))
      have C21 := C20.keep K11 (ninS (by omega : @Ne Nat b6 b7) (nin0))
      have O22 : Old Z n0 T3.heap := O0.keep K3 all0
      have O23 : Old Z n0 h6 := O22.keep K6 all0
      have O24 : Old Z n0 h7 := O23.keep K7 all0
      have O25 : Old Z n0 h9 := O24.keep K9 (allS (by omega) (all0))
      have O26 : Old Z n0 h11 := O25.keep K11 (allS (by omega) (all0))
      obtain ⟨_, _, ⟨T12, L12, k12, n12⟩, -, X12, ⟨Lc12, hQ12, l12, y12, z12⟩, st12⟩ := X11.specialBack hx (y := (⟨"java/lang/String", "<init>", "([C)V"⟩ : MethodName)) rfl hown (mvT hZ (tw hw 28 rfl)) (mvT hZ (tw hw 29 rfl)) (mvT hZ (tw hw 30 rfl)) (by decide) (StrChars.Road.backV (W := 1) hZ hws (kI := 4) (tw hw 10 rfl) (cs := ([(((p3 &&& (255 : Int32)).toUInt32.toUInt16.toUInt32.toInt32).toUInt32.toUInt16.toUInt32.toInt32), (((((p3.toUInt32 >>> ((8 : Int32) &&& 31).toUInt32).toInt32) &&& (255 : Int32)).toUInt32.toUInt16.toUInt32.toInt32).toUInt32.toUInt16.toUInt32.toInt32)] : List Int32)) (bs := ([(((p3 &&& (255 : Int32)).toUInt32.toUInt16.toUInt32.toInt32).toUInt32.toUInt16.toUInt32.toInt32), (((((p3.toUInt32 >>> ((8 : Int32) &&& 31).toUInt32).toInt32) &&& (255 : Int32)).toUInt32.toUInt16.toUInt32.toInt32).toUInt32.toUInt16.toUInt32.toInt32)] : List Int32).map (fun c => c.toInt8.toInt32)) (n := 2) (by omega : @LE.le Nat _ n0 b6) (by omega) C15 C18 C21 V11 (Sta.ext O26.2 S_CS) c_CS rfl rfl (by decide) (by decide) (by intro d hd; simp only [List.mem_cons, List.not_mem_nil, or_false] at hd; rcases hd with rfl | rfl <;> exact own_byte _) rfl (by decide) (by decide)) (g := (mkF m 59 #[.val (.int p1), .val (.int p2), .val (.int p3), .val (.int p4), .val (.ref x3), .unset, .unset, .unset, .unset, .unset, .unset, .unset, .unset] [(.ref b7), (.ref b6), (.ref b6)])) rfl (by rw [hml]; rfl) (Steps.refl _) (a := b6) (argsL := [(.ref b7)]) (rest := [(.ref b6)]) (lenOf pd_5 rfl) rfl (by show 2 * 0 + _ ≤ _; exact Nat.le_of_eq rfl) (hb hby at_59) (fun _ _ => ⟨rfl, e11, (by decide : 4 + 1 ≤ _), (by decide : 11 + 2 ≤ _)⟩)
      dsimp only [Pt.U, Pt.locs, Pt.cells, Pt.slots] at X12 l12 y12 z12 st12 hQ12
      subst l12 y12 z12
      obtain ⟨rfl, N12q, K12, E12, C12, t12, kb12, ge12, gh12, tx12, Vf12, Av12⟩ := hQ12
      have lt12 : @LT.lt Nat _ t12 T12.heap.size := Av12.lt
      have sz6_K12 := K12.1
      have N12 := Fr.app N11 N12q
      have pre28 : ∀ t, Steps p.tables e below (T12.setTop (mkF m 67 #[.val (.int p1), .val (.int p2), .val (.int p3), .val (.int p4), .val (.ref x3), .val (.ref b6), .unset, .unset, .unset, .unset, .unset, .unset, .unset] [(.int (p1 &&& (4 : Int32)))])) t → Steps p.tables e below (s₁.setTop (entryFrame m #[(.int p1), (.int p2), (.int p3), (.int p4)] maxLocals)) t := by
        intro t kt
        refine pre5 _ ?_
        show Steps p.tables e below (T3.setTop (mkF m 24 #[.val (.int p1), .val (.int p2), .val (.int p3), .val (.int p4), .val (.ref x3), .unset, .unset, .unset, .unset, .unset, .unset, .unset, .unset] [(.int (p1 &&& (2 : Int32)))])) _
        refine XS.ifYes X3.here hx rfl (pc0 := 24) (pc' := 31) rfl (hb hby at_24) rfl ((if0 _ _).trans (teq hc4).1) (by decide) (by decide) ?_
        show Steps p.tables e below (T3.setTop (mkF m 31 #[.val (.int p1), .val (.int p2), .val (.int p3), .val (.int p4), .val (.ref x3), .unset, .unset, .unset, .unset, .unset, .unset, .unset, .unset] [])) _
        refine st6 _ ?_
        show Steps p.tables e below (T6.setTop (mkF m 34 #[.val (.int p1), .val (.int p2), .val (.int p3), .val (.int p4), .val (.ref x3), .unset, .unset, .unset, .unset, .unset, .unset, .unset, .unset] [(.ref b6)])) _
        refine XS.dup X6.here hx rfl (hb hby at_34) rfl rfl ?_
        show Steps p.tables e below (T6.setTop (mkF m 35 #[.val (.int p1), .val (.int p2), .val (.int p3), .val (.int p4), .val (.ref x3), .unset, .unset, .unset, .unset, .unset, .unset, .unset, .unset] [(.ref b6), (.ref b6)])) _
        refine XS.iconst X6.here hx rfl (hb hby at_35) ?_
        show Steps p.tables e below (T6.setTop (mkF m 36 #[.val (.int p1), .val (.int p2), .val (.int p3), .val (.int p4), .val (.ref x3), .unset, .unset, .unset, .unset, .unset, .unset, .unset, .unset] [(.int (2 : Int32)), (.ref b6), (.ref b6)])) _
        refine st7 _ ?_
        show Steps p.tables e below (T7.setTop (mkF m 38 #[.val (.int p1), .val (.int p2), .val (.int p3), .val (.int p4), .val (.ref x3), .unset, .unset, .unset, .unset, .unset, .unset, .unset, .unset] [(.ref b7), (.ref b6), (.ref b6)])) _
        refine XS.dup X7.here hx rfl (hb hby at_38) rfl rfl ?_
        show Steps p.tables e below (T7.setTop (mkF m 39 #[.val (.int p1), .val (.int p2), .val (.int p3), .val (.int p4), .val (.ref x3), .unset, .unset, .unset, .unset, .unset, .unset, .unset, .unset] [(.ref b7), (.ref b7), (.ref b6), (.ref b6)])) _
        refine XS.iconst X7.here hx rfl (hb hby at_39) ?_
        show Steps p.tables e below (T7.setTop (mkF m 40 #[.val (.int p1), .val (.int p2), .val (.int p3), .val (.int p4), .val (.ref x3), .unset, .unset, .unset, .unset, .unset, .unset, .unset, .unset] [(.int (0 : Int32)), (.ref b7), (.ref b7), (.ref b6), (.ref b6)])) _
        refine XS.iloadN X7.here hx rfl (hb hby at_40) rfl ?_
        show Steps p.tables e below (T7.setTop (mkF m 41 #[.val (.int p1), .val (.int p2), .val (.int p3), .val (.int p4), .val (.ref x3), .unset, .unset, .unset, .unset, .unset, .unset, .unset, .unset] [(.int p3), (.int (0 : Int32)), (.ref b7), (.ref b7), (.ref b6), (.ref b6)])) _
        refine XS.sipush X7.here hx rfl (hb hby at_41) ?_
        show Steps p.tables e below (T7.setTop (mkF m 44 #[.val (.int p1), .val (.int p2), .val (.int p3), .val (.int p4), .val (.ref x3), .unset, .unset, .unset, .unset, .unset, .unset, .unset, .unset] [(.int (255 : Int32)), (.int p3), (.int (0 : Int32)), (.ref b7), (.ref b7), (.ref b6), (.ref b6)])) _
        refine XS.iand X7.here hx rfl (hb hby at_44) rfl ?_
        show Steps p.tables e below (T7.setTop (mkF m 45 #[.val (.int p1), .val (.int p2), .val (.int p3), .val (.int p4), .val (.ref x3), .unset, .unset, .unset, .unset, .unset, .unset, .unset, .unset] [(.int (p3 &&& (255 : Int32))), (.int (0 : Int32)), (.ref b7), (.ref b7), (.ref b6), (.ref b6)])) _
        refine XS.i2c X7.here hx rfl (hb hby at_45) rfl ?_
        show Steps p.tables e below (T7.setTop (mkF m 46 #[.val (.int p1), .val (.int p2), .val (.int p3), .val (.int p4), .val (.ref x3), .unset, .unset, .unset, .unset, .unset, .unset, .unset, .unset] [(.int ((p3 &&& (255 : Int32)).toUInt32.toUInt16.toUInt32.toInt32)), (.int (0 : Int32)), (.ref b7), (.ref b7), (.ref b6), (.ref b6)])) _
        refine st9 _ ?_
        show Steps p.tables e below (T9.setTop (mkF m 47 #[.val (.int p1), .val (.int p2), .val (.int p3), .val (.int p4), .val (.ref x3), .unset, .unset, .unset, .unset, .unset, .unset, .unset, .unset] [(.ref b7), (.ref b6), (.ref b6)])) _
        refine XS.dup X9.here hx rfl (hb hby at_47) rfl rfl ?_
        show Steps p.tables e below (T9.setTop (mkF m 48 #[.val (.int p1), .val (.int p2), .val (.int p3), .val (.int p4), .val (.ref x3), .unset, .unset, .unset, .unset, .unset, .unset, .unset, .unset] [(.ref b7), (.ref b7), (.ref b6), (.ref b6)])) _
        refine XS.iconst X9.here hx rfl (hb hby at_48) ?_
        show Steps p.tables e below (T9.setTop (mkF m 49 #[.val (.int p1), .val (.int p2), .val (.int p3), .val (.int p4), .val (.ref x3), .unset, .unset, .unset, .unset, .unset, .unset, .unset, .unset] [(.int (1 : Int32)), (.ref b7), (.ref b7), (.ref b6), (.ref b6)])) _
        refine XS.iloadN X9.here hx rfl (hb hby at_49) rfl ?_
        show Steps p.tables e below (T9.setTop (mkF m 50 #[.val (.int p1), .val (.int p2), .val (.int p3), .val (.int p4), .val (.ref x3), .unset, .unset, .unset, .unset, .unset, .unset, .unset, .unset] [(.int p3), (.int (1 : Int32)), (.ref b7), (.ref b7), (.ref b6), (.ref b6)])) _
        refine XS.bipush X9.here hx rfl (hb hby at_50) ?_
        show Steps p.tables e below (T9.setTop (mkF m 52 #[.val (.int p1), .val (.int p2), .val (.int p3), .val (.int p4), .val (.ref x3), .unset, .unset, .unset, .unset, .unset, .unset, .unset, .unset] [(.int (8 : Int32)), (.int p3), (.int (1 : Int32)), (.ref b7), (.ref b7), (.ref b6), (.ref b6)])) _
        refine XS.iushr X9.here hx rfl (hb hby at_52) rfl ?_
        show Steps p.tables e below (T9.setTop (mkF m 53 #[.val (.int p1), .val (.int p2), .val (.int p3), .val (.int p4), .val (.ref x3), .unset, .unset, .unset, .unset, .unset, .unset, .unset, .unset] [(.int ((p3.toUInt32 >>> ((8 : Int32) &&& 31).toUInt32).toInt32)), (.int (1 : Int32)), (.ref b7), (.ref b7), (.ref b6), (.ref b6)])) _
        refine XS.sipush X9.here hx rfl (hb hby at_53) ?_
        show Steps p.tables e below (T9.setTop (mkF m 56 #[.val (.int p1), .val (.int p2), .val (.int p3), .val (.int p4), .val (.ref x3), .unset, .unset, .unset, .unset, .unset, .unset, .unset, .unset] [(.int (255 : Int32)), (.int ((p3.toUInt32 >>> ((8 : Int32) &&& 31).toUInt32).toInt32)), (.int (1 : Int32)), (.ref b7), (.ref b7), (.ref b6), (.ref b6)])) _
        refine XS.iand X9.here hx rfl (hb hby at_56) rfl ?_
        show Steps p.tables e below (T9.setTop (mkF m 57 #[.val (.int p1), .val (.int p2), .val (.int p3), .val (.int p4), .val (.ref x3), .unset, .unset, .unset, .unset, .unset, .unset, .unset, .unset] [(.int (((p3.toUInt32 >>> ((8 : Int32) &&& 31).toUInt32).toInt32) &&& (255 : Int32))), (.int (1 : Int32)), (.ref b7), (.ref b7), (.ref b6), (.ref b6)])) _
        refine XS.i2c X9.here hx rfl (hb hby at_57) rfl ?_
        show Steps p.tables e below (T9.setTop (mkF m 58 #[.val (.int p1), .val (.int p2), .val (.int p3), .val (.int p4), .val (.ref x3), .unset, .unset, .unset, .unset, .unset, .unset, .unset, .unset] [(.int ((((p3.toUInt32 >>> ((8 : Int32) &&& 31).toUInt32).toInt32) &&& (255 : Int32)).toUInt32.toUInt16.toUInt32.toInt32)), (.int (1 : Int32)), (.ref b7), (.ref b7), (.ref b6), (.ref b6)])) _
        refine st11 _ ?_
        show Steps p.tables e below (T11.setTop (mkF m 59 #[.val (.int p1), .val (.int p2), .val (.int p3), .val (.int p4), .val (.ref x3), .unset, .unset, .unset, .unset, .unset, .unset, .unset, .unset] [(.ref b7), (.ref b6), (.ref b6)])) _
        refine st12.trans ?_
        show Steps p.tables e below (T12.setTop (mkF m 62 #[.val (.int p1), .val (.int p2), .val (.int p3), .val (.int p4), .val (.ref x3), .unset, .unset, .unset, .unset, .unset, .unset, .unset, .unset] [(.ref b6)])) _
        refine XS.astore X12.here hx rfl (hb hby at_62) rfl rfl (l' := #[.val (.int p1), .val (.int p2), .val (.int p3), .val (.int p4), .val (.ref x3), .val (.ref b6), .unset, .unset, .unset, .unset, .unset, .unset, .unset]) rfl ?_
        show Steps p.tables e below (T12.setTop (mkF m 64 #[.val (.int p1), .val (.int p2), .val (.int p3), .val (.int p4), .val (.ref x3), .val (.ref b6), .unset, .unset, .unset, .unset, .unset, .unset, .unset] [])) _
        refine XS.iloadN X12.here hx rfl (hb hby at_64) rfl ?_
        show Steps p.tables e below (T12.setTop (mkF m 65 #[.val (.int p1), .val (.int p2), .val (.int p3), .val (.int p4), .val (.ref x3), .val (.ref b6), .unset, .unset, .unset, .unset, .unset, .unset, .unset] [(.int p1)])) _
        refine XS.iconst X12.here hx rfl (hb hby at_65) ?_
        show Steps p.tables e below (T12.setTop (mkF m 66 #[.val (.int p1), .val (.int p2), .val (.int p3), .val (.int p4), .val (.ref x3), .val (.ref b6), .unset, .unset, .unset, .unset, .unset, .unset, .unset] [(.int (4 : Int32)), (.int p1)])) _
        refine XS.iand X12.here hx rfl (hb hby at_66) rfl ?_
        exact kt
      by_cases hc27 : (p1 &&& (4 : Int32)) = (0 : Int32)
      · skip
        obtain ⟨T29, h29, X29, e29, E29, A29, D29, -, st29⟩ := newO X12 hx hZ hown (tw hw 26 rfl) (tw hw 10 rfl) (tw hw 2 rfl) rfl (g := (mkF m 74 #[.val (.int p1), .val (.int p2), .val (.int p3), .val (.int p4), .val (.ref x3), .val (.ref b6), .unset, .unset, .unset, .unset, .unset, .unset, .unset] [])) rfl (hb hby at_74) (by decide) (by decide)
        obtain ⟨b29, g29⟩ : ∃ z, z = T12.heap.size := ⟨_, rfl⟩
        rw [← g29] at A29 D29 st29
        have lt29 : @LT.lt Nat _ b29 h29.size := A29.lt
        have K29 : Keep T12.heap h29 [] := (Keep.refl _ _).ext E29
        have sz7_K29 := K29.1
        have F29_value : Fld Z h29 b29 "java/lang/String" "value" "[B" .null := D29 (Or.inr (tw hw 23 rfl)) (ty := (.array .byte)) (by decide)
        have F29_coder : Fld Z h29 b29 "java/lang/String" "coder" "B" (.int (0 : Int32)) := D29 (Or.inr (tw hw 25 rfl)) (ty := .byte) (by decide)
        obtain ⟨T30, h30, k30, X30, e30, E30, A30, st30⟩ := newP X29 hx hZ (tw hw 27 rfl) e29 (g := (mkF m 79 #[.val (.int p1), .val (.int p2), .val (.int p3), .val (.int p4), .val (.ref x3), .val (.ref b6), .unset, .unset, .unset, .unset, .unset, .unset, .unset] [(.int (3 : Int32)), (.ref b29), (.ref b29)])) rfl (hb hby at_79) rfl (by decide) (cap := 3) (by decide) (by decide) (by decide) (by decide)
        obtain ⟨b30, g30⟩ : ∃ z, z = h29.size := ⟨_, rfl⟩
        rw [← g30] at A30 st30
        have V30 : Arv Z h30 b30 k30 .char (3 : Int32) [(.int (0 : Int32)), (.int (0 : Int32)), (.int (0 : Int32))] (.int (0 : Int32)) := (Arv.new A30 (by decide)).pad (pad_rep [] (.int (0 : Int32)) 3)
        have lt30 : @LT.lt Nat _ b30 h30.size := V30.lt
        have K30 : Keep h29 h30 [] := (Keep.refl _ _).ext E30
        have sz8_K30 := K30.1
        obtain ⟨cl31, Ar31, q31, S31, Nn31, H31, G31⟩ := V30
        obtain ⟨T32, h32, X32, e32, W32, st32⟩ := stC X30 hx hZ e30 Ar31 (j := (0 : Int32)) (inb_of S31 ⟨by decide, by decide⟩) (g := (mkF m 89 #[.val (.int p1), .val (.int p2), .val (.int p3), .val (.int p4), .val (.ref x3), .val (.ref b6), .unset, .unset, .unset, .unset, .unset, .unset, .unset] [(.int ((p4 &&& (255 : Int32)).toUInt32.toUInt16.toUInt32.toInt32)), (.int (0 : Int32)), (.ref b30), (.ref b30), (.ref b29), (.ref b29)])) rfl rfl (hb hby at_89)
        have V32 : Arv Z h32 b30 k30 .char (3 : Int32) [(.int (((p4 &&& (255 : Int32)).toUInt32.toUInt16.toUInt32.toInt32).toUInt32.toUInt16.toUInt32.toInt32)), (.int (0 : Int32)), (.int (0 : Int32))] (.int (0 : Int32)) := Arv.set Ar31 q31 S31 Nn31 H31 G31 (fits_nar_char _) W32 0 rfl (Nat.le_of_ble_eq_true rfl)
        have K32 := Keep.of_wr W32
        have N32 := Fr.snoc X32 N12 (by omega : @LE.le Nat _ n0 b30)
        have sz9_K32 := K32.1
        obtain ⟨cl33, Ar33, q33, S33, Nn33, H33, G33⟩ := V32
        obtain ⟨T34, h34, X34, e34, W34, st34⟩ := stC X32 hx hZ e32 Ar33 (j := (1 : Int32)) (inb_of S33 ⟨by decide, by decide⟩) (g := (mkF m 101 #[.val (.int p1), .val (.int p2), .val (.int p3), .val (.int p4), .val (.ref x3), .val (.ref b6), .unset, .unset, .unset, .unset, .unset, .unset, .unset] [(.int ((((p4.toUInt32 >>> ((8 : Int32) &&& 31).toUInt32).toInt32) &&& (255 : Int32)).toUInt32.toUInt16.toUInt32.toInt32)), (.int (1 : Int32)), (.ref b30), (.ref b30), (.ref b29), (.ref b29)])) rfl rfl (hb hby at_101)
        have V34 : Arv Z h34 b30 k30 .char (3 : Int32) [(.int (((p4 &&& (255 : Int32)).toUInt32.toUInt16.toUInt32.toInt32).toUInt32.toUInt16.toUInt32.toInt32)), (.int (((((p4.toUInt32 >>> ((8 : Int32) &&& 31).toUInt32).toInt32) &&& (255 : Int32)).toUInt32.toUInt16.toUInt32.toInt32).toUInt32.toUInt16.toUInt32.toInt32)), (.int (0 : Int32))] (.int (0 : Int32)) := Arv.set Ar33 q33 S33 Nn33 H33 G33 (fits_nar_char _) W34 1 rfl (Nat.le_of_ble_eq_true rfl)
        have K34 := Keep.of_wr W34
        have N34 := Fr.snoc X34 N32 (by omega : @LE.le Nat _ n0 b30)
        have sz10_K34 := K34.1
        obtain ⟨cl35, Ar35, q35, S35, Nn35, H35, G35⟩ := V34
        obtain ⟨T36, h36, X36, e36, W36, st36⟩ := stC X34 hx hZ e34 Ar35 (j := (2 : Int32)) (inb_of S35 ⟨by decide, by decide⟩) (g := (mkF m 113 #[.val (.int p1), .val (.int p2), .val (.int p3), .val (.int p4), .val (.ref x3), .val (.ref b6), .unset, .unset, .unset, .unset, .unset, .unset, .unset] [(.int ((((p4.toUInt32 >>> ((16 : Int32) &&& 31).toUInt32).toInt32) &&& (255 : Int32)).toUInt32.toUInt16.toUInt32.toInt32)), (.int (2 : Int32)), (.ref b30), (.ref b30), (.ref b29), (.ref b29)])) rfl rfl (hb hby at_113)
        have V36 : Arv Z h36 b30 k30 .char (3 : Int32) [(.int (((p4 &&& (255 : Int32)).toUInt32.toUInt16.toUInt32.toInt32).toUInt32.toUInt16.toUInt32.toInt32)), (.int (((((p4.toUInt32 >>> ((8 : Int32) &&& 31).toUInt32).toInt32) &&& (255 : Int32)).toUInt32.toUInt16.toUInt32.toInt32).toUInt32.toUInt16.toUInt32.toInt32)), (.int (((((p4.toUInt32 >>> ((16 : Int32) &&& 31).toUInt32).toInt32) &&& (255 : Int32)).toUInt32.toUInt16.toUInt32.toInt32).toUInt32.toUInt16.toUInt32.toInt32))] (.int (0 : Int32)) := Arv.set Ar35 q35 S35 Nn35 H35 G35 (fits_nar_char _) W36 2 rfl (Nat.le_of_ble_eq_true rfl)
        have K36 := Keep.of_wr W36
        have N36 := Fr.snoc X36 N34 (by omega : @LE.le Nat _ n0 b30)
        have sz11_K36 := K36.1
        have C38 := A29.keep K30
        have C39 := C38.keep K32
        have C40 := C39.keep K34
        have C41 := C40.keep K36
        have C42 := F29_value.keep K30 nin0
        have C43 := C42.keep K32 (ninS (by omega : @Ne Nat b29 b30) (nin0))
        have C44 := C43.keep K34 (ninS (by omega : @Ne Nat b29 b30) (nin0))
        have C45 := C44.keep K36 (ninS (by omega : @Ne Nat b29 b30) (nin0))
        have C46 := F29_coder.keep K30 nin0
        have C47 := C46.keep K32 (ninS (by omega : @Ne Nat b29 b30) (nin0))
        have C48 := C47.keep K34 (ninS (by omega : @Ne Nat b29 b30) (nin0))
        have C49 := C48.keep K36 (ninS (by omega : @Ne Nat b29 b30) (nin0))
        have O50 : Old Z n0 T12.heap := O26.keep K12 (allS (by omega) (all0))
        have O51 : Old Z n0 h29 := O50.keep K29 all0
        have O52 : Old Z n0 h30 := O51.keep K30 all0
        have O53 : Old Z n0 h32 := O52.keep K32 (allS (by omega) (all0))
        have O54 : Old Z n0 h34 := O53.keep K34 (allS (by omega) (all0))
        have O55 : Old Z n0 h36 := O54.keep K36 (allS (by omega) (all0))
        obtain ⟨_, _, ⟨T37, L37, k37, n37⟩, -, X37, ⟨Lc37, hQ37, l37, y37, z37⟩, st37⟩ := X36.specialBack hx (y := (⟨"java/lang/String", "<init>", "([C)V"⟩ : MethodName)) rfl hown (mvT hZ (tw hw 28 rfl)) (mvT hZ (tw hw 29 rfl)) (mvT hZ (tw hw 30 rfl)) (by decide) (StrChars.Road.backV (W := 1) hZ hws (kI := 4) (tw hw 10 rfl) (cs := ([(((p4 &&& (255 : Int32)).toUInt32.toUInt16.toUInt32.toInt32).toUInt32.toUInt16.toUInt32.toInt32), (((((p4.toUInt32 >>> ((8 : Int32) &&& 31).toUInt32).toInt32) &&& (255 : Int32)).toUInt32.toUInt16.toUInt32.toInt32).toUInt32.toUInt16.toUInt32.toInt32), (((((p4.toUInt32 >>> ((16 : Int32) &&& 31).toUInt32).toInt32) &&& (255 : Int32)).toUInt32.toUInt16.toUInt32.toInt32).toUInt32.toUInt16.toUInt32.toInt32)] : List Int32)) (bs := ([(((p4 &&& (255 : Int32)).toUInt32.toUInt16.toUInt32.toInt32).toUInt32.toUInt16.toUInt32.toInt32), (((((p4.toUInt32 >>> ((8 : Int32) &&& 31).toUInt32).toInt32) &&& (255 : Int32)).toUInt32.toUInt16.toUInt32.toInt32).toUInt32.toUInt16.toUInt32.toInt32), (((((p4.toUInt32 >>> ((16 : Int32) &&& 31).toUInt32).toInt32) &&& (255 : Int32)).toUInt32.toUInt16.toUInt32.toInt32).toUInt32.toUInt16.toUInt32.toInt32)] : List Int32).map (fun c => c.toInt8.toInt32)) (n := 3) (by omega : @LE.le Nat _ n0 b29) (by omega) C41 C45 C49 V36 (Sta.ext O55.2 S_CS) c_CS rfl rfl (by decide) (by decide) (by intro d hd; simp only [List.mem_cons, List.not_mem_nil, or_false] at hd; rcases hd with rfl | rfl | rfl <;> exact own_byte _) rfl (by decide) (by decide)) (g := (mkF m 114 #[.val (.int p1), .val (.int p2), .val (.int p3), .val (.int p4), .val (.ref x3), .val (.ref b6), .unset, .unset, .unset, .unset, .unset, .unset, .unset] [(.ref b30), (.ref b29), (.ref b29)])) rfl (by rw [hml]; rfl) (Steps.refl _) (a := b29) (argsL := [(.ref b30)]) (rest := [(.ref b29)]) (lenOf pd_5 rfl) rfl (by show 2 * 0 + _ ≤ _; exact Nat.le_of_eq rfl) (hb hby at_114) (fun _ _ => ⟨rfl, e36, (by decide : 7 + 1 ≤ _), (by decide : 20 + 3 ≤ _)⟩)
        dsimp only [Pt.U, Pt.locs, Pt.cells, Pt.slots] at X37 l37 y37 z37 st37 hQ37
        subst l37 y37 z37
        obtain ⟨rfl, N37q, K37, E37, C37, t37, kb37, ge37, gh37, tx37, Vf37, Av37⟩ := hQ37
        have lt37 : @LT.lt Nat _ t37 T37.heap.size := Av37.lt
        have sz12_K37 := K37.1
        have N37 := Fr.app N36 N37q
        have pre57 : ∀ t, Steps p.tables e below (T37.setTop (mkF m 123 #[.val (.int p1), .val (.int p2), .val (.int p3), .val (.int p4), .val (.ref x3), .val (.ref b6), .val (.ref b29), .unset, .unset, .unset, .unset, .unset, .unset] [(.int (p1 &&& (8 : Int32)))])) t → Steps p.tables e below (s₁.setTop (entryFrame m #[(.int p1), (.int p2), (.int p3), (.int p4)] maxLocals)) t := by
          intro t kt
          refine pre28 _ ?_
          show Steps p.tables e below (T12.setTop (mkF m 67 #[.val (.int p1), .val (.int p2), .val (.int p3), .val (.int p4), .val (.ref x3), .val (.ref b6), .unset, .unset, .unset, .unset, .unset, .unset, .unset] [(.int (p1 &&& (4 : Int32)))])) _
          refine XS.ifYes X12.here hx rfl (pc0 := 67) (pc' := 74) rfl (hb hby at_67) rfl ((if0 _ _).trans (teq hc27).1) (by decide) (by decide) ?_
          show Steps p.tables e below (T12.setTop (mkF m 74 #[.val (.int p1), .val (.int p2), .val (.int p3), .val (.int p4), .val (.ref x3), .val (.ref b6), .unset, .unset, .unset, .unset, .unset, .unset, .unset] [])) _
          refine st29 _ ?_
          show Steps p.tables e below (T29.setTop (mkF m 77 #[.val (.int p1), .val (.int p2), .val (.int p3), .val (.int p4), .val (.ref x3), .val (.ref b6), .unset, .unset, .unset, .unset, .unset, .unset, .unset] [(.ref b29)])) _
          refine XS.dup X29.here hx rfl (hb hby at_77) rfl rfl ?_
          show Steps p.tables e below (T29.setTop (mkF m 78 #[.val (.int p1), .val (.int p2), .val (.int p3), .val (.int p4), .val (.ref x3), .val (.ref b6), .unset, .unset, .unset, .unset, .unset, .unset, .unset] [(.ref b29), (.ref b29)])) _
          refine XS.iconst X29.here hx rfl (hb hby at_78) ?_
          show Steps p.tables e below (T29.setTop (mkF m 79 #[.val (.int p1), .val (.int p2), .val (.int p3), .val (.int p4), .val (.ref x3), .val (.ref b6), .unset, .unset, .unset, .unset, .unset, .unset, .unset] [(.int (3 : Int32)), (.ref b29), (.ref b29)])) _
          refine st30 _ ?_
          show Steps p.tables e below (T30.setTop (mkF m 81 #[.val (.int p1), .val (.int p2), .val (.int p3), .val (.int p4), .val (.ref x3), .val (.ref b6), .unset, .unset, .unset, .unset, .unset, .unset, .unset] [(.ref b30), (.ref b29), (.ref b29)])) _
          refine XS.dup X30.here hx rfl (hb hby at_81) rfl rfl ?_
          show Steps p.tables e below (T30.setTop (mkF m 82 #[.val (.int p1), .val (.int p2), .val (.int p3), .val (.int p4), .val (.ref x3), .val (.ref b6), .unset, .unset, .unset, .unset, .unset, .unset, .unset] [(.ref b30), (.ref b30), (.ref b29), (.ref b29)])) _
          refine XS.iconst X30.here hx rfl (hb hby at_82) ?_
          show Steps p.tables e below (T30.setTop (mkF m 83 #[.val (.int p1), .val (.int p2), .val (.int p3), .val (.int p4), .val (.ref x3), .val (.ref b6), .unset, .unset, .unset, .unset, .unset, .unset, .unset] [(.int (0 : Int32)), (.ref b30), (.ref b30), (.ref b29), (.ref b29)])) _
          refine XS.iloadN X30.here hx rfl (hb hby at_83) rfl ?_
          show Steps p.tables e below (T30.setTop (mkF m 84 #[.val (.int p1), .val (.int p2), .val (.int p3), .val (.int p4), .val (.ref x3), .val (.ref b6), .unset, .unset, .unset, .unset, .unset, .unset, .unset] [(.int p4), (.int (0 : Int32)), (.ref b30), (.ref b30), (.ref b29), (.ref b29)])) _
          refine XS.sipush X30.here hx rfl (hb hby at_84) ?_
          show Steps p.tables e below (T30.setTop (mkF m 87 #[.val (.int p1), .val (.int p2), .val (.int p3), .val (.int p4), .val (.ref x3), .val (.ref b6), .unset, .unset, .unset, .unset, .unset, .unset, .unset] [(.int (255 : Int32)), (.int p4), (.int (0 : Int32)), (.ref b30), (.ref b30), (.ref b29), (.ref b29)])) _
          refine XS.iand X30.here hx rfl (hb hby at_87) rfl ?_
          show Steps p.tables e below (T30.setTop (mkF m 88 #[.val (.int p1), .val (.int p2), .val (.int p3), .val (.int p4), .val (.ref x3), .val (.ref b6), .unset, .unset, .unset, .unset, .unset, .unset, .unset] [(.int (p4 &&& (255 : Int32))), (.int (0 : Int32)), (.ref b30), (.ref b30), (.ref b29), (.ref b29)])) _
          refine XS.i2c X30.here hx rfl (hb hby at_88) rfl ?_
          show Steps p.tables e below (T30.setTop (mkF m 89 #[.val (.int p1), .val (.int p2), .val (.int p3), .val (.int p4), .val (.ref x3), .val (.ref b6), .unset, .unset, .unset, .unset, .unset, .unset, .unset] [(.int ((p4 &&& (255 : Int32)).toUInt32.toUInt16.toUInt32.toInt32)), (.int (0 : Int32)), (.ref b30), (.ref b30), (.ref b29), (.ref b29)])) _
          refine st32 _ ?_
          show Steps p.tables e below (T32.setTop (mkF m 90 #[.val (.int p1), .val (.int p2), .val (.int p3), .val (.int p4), .val (.ref x3), .val (.ref b6), .unset, .unset, .unset, .unset, .unset, .unset, .unset] [(.ref b30), (.ref b29), (.ref b29)])) _
          refine XS.dup X32.here hx rfl (hb hby at_90) rfl rfl ?_
          show Steps p.tables e below (T32.setTop (mkF m 91 #[.val (.int p1), .val (.int p2), .val (.int p3), .val (.int p4), .val (.ref x3), .val (.ref b6), .unset, .unset, .unset, .unset, .unset, .unset, .unset] [(.ref b30), (.ref b30), (.ref b29), (.ref b29)])) _
          refine XS.iconst X32.here hx rfl (hb hby at_91) ?_
          show Steps p.tables e below (T32.setTop (mkF m 92 #[.val (.int p1), .val (.int p2), .val (.int p3), .val (.int p4), .val (.ref x3), .val (.ref b6), .unset, .unset, .unset, .unset, .unset, .unset, .unset] [(.int (1 : Int32)), (.ref b30), (.ref b30), (.ref b29), (.ref b29)])) _
          refine XS.iloadN X32.here hx rfl (hb hby at_92) rfl ?_
          show Steps p.tables e below (T32.setTop (mkF m 93 #[.val (.int p1), .val (.int p2), .val (.int p3), .val (.int p4), .val (.ref x3), .val (.ref b6), .unset, .unset, .unset, .unset, .unset, .unset, .unset] [(.int p4), (.int (1 : Int32)), (.ref b30), (.ref b30), (.ref b29), (.ref b29)])) _
          refine XS.bipush X32.here hx rfl (hb hby at_93) ?_
          show Steps p.tables e below (T32.setTop (mkF m 95 #[.val (.int p1), .val (.int p2), .val (.int p3), .val (.int p4), .val (.ref x3), .val (.ref b6), .unset, .unset, .unset, .unset, .unset, .unset, .unset] [(.int (8 : Int32)), (.int p4), (.int (1 : Int32)), (.ref b30), (.ref b30), (.ref b29), (.ref b29)])) _
          refine XS.iushr X32.here hx rfl (hb hby at_95) rfl ?_
          show Steps p.tables e below (T32.setTop (mkF m 96 #[.val (.int p1), .val (.int p2), .val (.int p3), .val (.int p4), .val (.ref x3), .val (.ref b6), .unset, .unset, .unset, .unset, .unset, .unset, .unset] [(.int ((p4.toUInt32 >>> ((8 : Int32) &&& 31).toUInt32).toInt32)), (.int (1 : Int32)), (.ref b30), (.ref b30), (.ref b29), (.ref b29)])) _
          refine XS.sipush X32.here hx rfl (hb hby at_96) ?_
          show Steps p.tables e below (T32.setTop (mkF m 99 #[.val (.int p1), .val (.int p2), .val (.int p3), .val (.int p4), .val (.ref x3), .val (.ref b6), .unset, .unset, .unset, .unset, .unset, .unset, .unset] [(.int (255 : Int32)), (.int ((p4.toUInt32 >>> ((8 : Int32) &&& 31).toUInt32).toInt32)), (.int (1 : Int32)), (.ref b30), (.ref b30), (.ref b29), (.ref b29)])) _
          refine XS.iand X32.here hx rfl (hb hby at_99) rfl ?_
          show Steps p.tables e below (T32.setTop (mkF m 100 #[.val (.int p1), .val (.int p2), .val (.int p3), .val (.int p4), .val (.ref x3), .val (.ref b6), .unset, .unset, .unset, .unset, .unset, .unset, .unset] [(.int (((p4.toUInt32 >>> ((8 : Int32) &&& 31).toUInt32).toInt32) &&& (255 : Int32))), (.int (1 : Int32)), (.ref b30), (.ref b30), (.ref b29), (.ref b29)])) _
          refine XS.i2c X32.here hx rfl (hb hby at_100) rfl ?_
          show Steps p.tables e below (T32.setTop (mkF m 101 #[.val (.int p1), .val (.int p2), .val (.int p3), .val (.int p4), .val (.ref x3), .val (.ref b6), .unset, .unset, .unset, .unset, .unset, .unset, .unset] [(.int ((((p4.toUInt32 >>> ((8 : Int32) &&& 31).toUInt32).toInt32) &&& (255 : Int32)).toUInt32.toUInt16.toUInt32.toInt32)), (.int (1 : Int32)), (.ref b30), (.ref b30), (.ref b29), (.ref b29)])) _
          refine st34 _ ?_
          show Steps p.tables e below (T34.setTop (mkF m 102 #[.val (.int p1), .val (.int p2), .val (.int p3), .val (.int p4), .val (.ref x3), .val (.ref b6), .unset, .unset, .unset, .unset, .unset, .unset, .unset] [(.ref b30), (.ref b29), (.ref b29)])) _
          refine XS.dup X34.here hx rfl (hb hby at_102) rfl rfl ?_
          show Steps p.tables e below (T34.setTop (mkF m 103 #[.val (.int p1), .val (.int p2), .val (.int p3), .val (.int p4), .val (.ref x3), .val (.ref b6), .unset, .unset, .unset, .unset, .unset, .unset, .unset] [(.ref b30), (.ref b30), (.ref b29), (.ref b29)])) _
          refine XS.iconst X34.here hx rfl (hb hby at_103) ?_
          show Steps p.tables e below (T34.setTop (mkF m 104 #[.val (.int p1), .val (.int p2), .val (.int p3), .val (.int p4), .val (.ref x3), .val (.ref b6), .unset, .unset, .unset, .unset, .unset, .unset, .unset] [(.int (2 : Int32)), (.ref b30), (.ref b30), (.ref b29), (.ref b29)])) _
          refine XS.iloadN X34.here hx rfl (hb hby at_104) rfl ?_
          show Steps p.tables e below (T34.setTop (mkF m 105 #[.val (.int p1), .val (.int p2), .val (.int p3), .val (.int p4), .val (.ref x3), .val (.ref b6), .unset, .unset, .unset, .unset, .unset, .unset, .unset] [(.int p4), (.int (2 : Int32)), (.ref b30), (.ref b30), (.ref b29), (.ref b29)])) _
          refine XS.bipush X34.here hx rfl (hb hby at_105) ?_
          show Steps p.tables e below (T34.setTop (mkF m 107 #[.val (.int p1), .val (.int p2), .val (.int p3), .val (.int p4), .val (.ref x3), .val (.ref b6), .unset, .unset, .unset, .unset, .unset, .unset, .unset] [(.int (16 : Int32)), (.int p4), (.int (2 : Int32)), (.ref b30), (.ref b30), (.ref b29), (.ref b29)])) _
          refine XS.iushr X34.here hx rfl (hb hby at_107) rfl ?_
          show Steps p.tables e below (T34.setTop (mkF m 108 #[.val (.int p1), .val (.int p2), .val (.int p3), .val (.int p4), .val (.ref x3), .val (.ref b6), .unset, .unset, .unset, .unset, .unset, .unset, .unset] [(.int ((p4.toUInt32 >>> ((16 : Int32) &&& 31).toUInt32).toInt32)), (.int (2 : Int32)), (.ref b30), (.ref b30), (.ref b29), (.ref b29)])) _
          refine XS.sipush X34.here hx rfl (hb hby at_108) ?_
          show Steps p.tables e below (T34.setTop (mkF m 111 #[.val (.int p1), .val (.int p2), .val (.int p3), .val (.int p4), .val (.ref x3), .val (.ref b6), .unset, .unset, .unset, .unset, .unset, .unset, .unset] [(.int (255 : Int32)), (.int ((p4.toUInt32 >>> ((16 : Int32) &&& 31).toUInt32).toInt32)), (.int (2 : Int32)), (.ref b30), (.ref b30), (.ref b29), (.ref b29)])) _
          refine XS.iand X34.here hx rfl (hb hby at_111) rfl ?_
          show Steps p.tables e below (T34.setTop (mkF m 112 #[.val (.int p1), .val (.int p2), .val (.int p3), .val (.int p4), .val (.ref x3), .val (.ref b6), .unset, .unset, .unset, .unset, .unset, .unset, .unset] [(.int (((p4.toUInt32 >>> ((16 : Int32) &&& 31).toUInt32).toInt32) &&& (255 : Int32))), (.int (2 : Int32)), (.ref b30), (.ref b30), (.ref b29), (.ref b29)])) _
          refine XS.i2c X34.here hx rfl (hb hby at_112) rfl ?_
          show Steps p.tables e below (T34.setTop (mkF m 113 #[.val (.int p1), .val (.int p2), .val (.int p3), .val (.int p4), .val (.ref x3), .val (.ref b6), .unset, .unset, .unset, .unset, .unset, .unset, .unset] [(.int ((((p4.toUInt32 >>> ((16 : Int32) &&& 31).toUInt32).toInt32) &&& (255 : Int32)).toUInt32.toUInt16.toUInt32.toInt32)), (.int (2 : Int32)), (.ref b30), (.ref b30), (.ref b29), (.ref b29)])) _
          refine st36 _ ?_
          show Steps p.tables e below (T36.setTop (mkF m 114 #[.val (.int p1), .val (.int p2), .val (.int p3), .val (.int p4), .val (.ref x3), .val (.ref b6), .unset, .unset, .unset, .unset, .unset, .unset, .unset] [(.ref b30), (.ref b29), (.ref b29)])) _
          refine st37.trans ?_
          show Steps p.tables e below (T37.setTop (mkF m 117 #[.val (.int p1), .val (.int p2), .val (.int p3), .val (.int p4), .val (.ref x3), .val (.ref b6), .unset, .unset, .unset, .unset, .unset, .unset, .unset] [(.ref b29)])) _
          refine XS.astore X37.here hx rfl (hb hby at_117) rfl rfl (l' := #[.val (.int p1), .val (.int p2), .val (.int p3), .val (.int p4), .val (.ref x3), .val (.ref b6), .val (.ref b29), .unset, .unset, .unset, .unset, .unset, .unset]) rfl ?_
          show Steps p.tables e below (T37.setTop (mkF m 119 #[.val (.int p1), .val (.int p2), .val (.int p3), .val (.int p4), .val (.ref x3), .val (.ref b6), .val (.ref b29), .unset, .unset, .unset, .unset, .unset, .unset] [])) _
          refine XS.iloadN X37.here hx rfl (hb hby at_119) rfl ?_
          show Steps p.tables e below (T37.setTop (mkF m 120 #[.val (.int p1), .val (.int p2), .val (.int p3), .val (.int p4), .val (.ref x3), .val (.ref b6), .val (.ref b29), .unset, .unset, .unset, .unset, .unset, .unset] [(.int p1)])) _
          refine XS.bipush X37.here hx rfl (hb hby at_120) ?_
          show Steps p.tables e below (T37.setTop (mkF m 122 #[.val (.int p1), .val (.int p2), .val (.int p3), .val (.int p4), .val (.ref x3), .val (.ref b6), .val (.ref b29), .unset, .unset, .unset, .unset, .unset, .unset] [(.int (8 : Int32)), (.int p1)])) _
          refine XS.iand X37.here hx rfl (hb hby at_122) rfl ?_
          exact kt
        by_cases hc56 : (p1 &&& (8 : Int32)) = (0 : Int32)
        · skip
          obtain ⟨T58, h58, k58, X58, e58, E58, A58, O58, st58⟩ := newR X37 hx hZ hown (tw hw 26 rfl) (tw hw 44 rfl) rfl (g := (mkF m 143 #[.val (.int p1), .val (.int p2), .val (.int p3), .val (.int p4), .val (.ref x3), .val (.ref b6), .val (.ref b29), .val (.int (0 : Int32)), .unset, .unset, .unset, .unset, .unset] [(.int (3 : Int32))])) rfl (hb hby at_143) rfl (by decide) (cap := 3) (by decide) (by decide) (by decide) (by decide)
          obtain ⟨b58, g58⟩ : ∃ z, z = T37.heap.size := ⟨_, rfl⟩
          rw [← g58] at A58 st58
          have V58 : Arv Z h58 b58 k58 (.object "java/lang/String") (3 : Int32) [.null, .null, .null] .null := (Arv.new A58 (by decide)).pad (pad_rep [] .null 3)
          have lt58 : @LT.lt Nat _ b58 h58.size := V58.lt
          have K58 : Keep T37.heap h58 [] := (Keep.refl _ _).ext E58
          have sz13_K58 := K58.1
          obtain ⟨cl59, Ar59, q59, S59, Nn59, H59, G59⟩ := V58
          have C60 := E3.keep K6
          have C61 := C60.keep K7
          have C62 := C61.keep K9
          have C63 := C62.keep K11
          have C64 := C63.keep K12
          have C65 := C64.keep K29
          have C66 := C65.keep K30
          have C67 := C66.keep K32
          have C68 := C67.keep K34
          have C69 := C68.keep K36
          have C70 := C69.keep K37
          have C71 := C70.keep K58
          obtain ⟨T72, h72, X72, e72, W72, st72⟩ := stR X58 hx hZ e58 Ar59 (j := (0 : Int32)) (inb_of S59 ⟨by decide, by decide⟩) rfl (Sto.ofV Ar59 q59 O58 (Ins.self C71)) (g := (mkF m 150 #[.val (.int p1), .val (.int p2), .val (.int p3), .val (.int p4), .val (.ref x3), .val (.ref b6), .val (.ref b29), .val (.int (0 : Int32)), .unset, .unset, .unset, .unset, .unset] [(.ref x3), (.int (0 : Int32)), (.ref b58), (.ref b58)])) rfl rfl (hb hby at_150)
          have V72 : Arv Z h72 b58 k58 (.object "java/lang/String") (3 : Int32) [(.ref x3), .null, .null] .null := Arv.set Ar59 q59 S59 Nn59 H59 G59 rfl W72 0 rfl (Nat.le_of_ble_eq_true rfl)
          have K72 := Keep.of_wr W72
          have N72 := Fr.snoc X72 N37 (by omega : @LE.le Nat _ n0 b58)
          have sz14_K72 := K72.1
          obtain ⟨cl73, Ar73, q73, S73, Nn73, H73, G73⟩ := V72
          have C74 := E12.keep K29
          have C75 := C74.keep K30
          have C76 := C75.keep K32
          have C77 := C76.keep K34
          have C78 := C77.keep K36
          have C79 := C78.keep K37
          have C80 := C79.keep K58
          have C81 := C80.keep K72
          obtain ⟨T82, h82, X82, e82, W82, st82⟩ := stR X72 hx hZ e72 Ar73 (j := (1 : Int32)) (inb_of S73 ⟨by decide, by decide⟩) rfl (Sto.ofV Ar73 q73 O58 (Ins.self C81)) (g := (mkF m 155 #[.val (.int p1), .val (.int p2), .val (.int p3), .val (.int p4), .val (.ref x3), .val (.ref b6), .val (.ref b29), .val (.int (0 : Int32)), .unset, .unset, .unset, .unset, .unset] [(.ref b6), (.int (1 : Int32)), (.ref b58), (.ref b58)])) rfl rfl (hb hby at_155)
          have V82 : Arv Z h82 b58 k58 (.object "java/lang/String") (3 : Int32) [(.ref x3), (.ref b6), .null] .null := Arv.set Ar73 q73 S73 Nn73 H73 G73 rfl W82 1 rfl (Nat.le_of_ble_eq_true rfl)
          have K82 := Keep.of_wr W82
          have N82 := Fr.snoc X82 N72 (by omega : @LE.le Nat _ n0 b58)
          have sz15_K82 := K82.1
          obtain ⟨cl83, Ar83, q83, S83, Nn83, H83, G83⟩ := V82
          have C84 := E37.keep K58
          have C85 := C84.keep K72
          have C86 := C85.keep K82
          obtain ⟨T87, h87, X87, e87, W87, st87⟩ := stR X82 hx hZ e82 Ar83 (j := (2 : Int32)) (inb_of S83 ⟨by decide, by decide⟩) rfl (Sto.ofV Ar83 q83 O58 (Ins.self C86)) (g := (mkF m 160 #[.val (.int p1), .val (.int p2), .val (.int p3), .val (.int p4), .val (.ref x3), .val (.ref b6), .val (.ref b29), .val (.int (0 : Int32)), .unset, .unset, .unset, .unset, .unset] [(.ref b29), (.int (2 : Int32)), (.ref b58), (.ref b58)])) rfl rfl (hb hby at_160)
          have V87 : Arv Z h87 b58 k58 (.object "java/lang/String") (3 : Int32) [(.ref x3), (.ref b6), (.ref b29)] .null := Arv.set Ar83 q83 S83 Nn83 H83 G83 rfl W87 2 rfl (Nat.le_of_ble_eq_true rfl)
          have K87 := Keep.of_wr W87
          have N87 := Fr.snoc X87 N82 (by omega : @LE.le Nat _ n0 b58)
          have sz16_K87 := K87.1
          obtain ⟨T88, h88, X88, e88, E88, A88, D88, -, st88⟩ := newO X87 hx hZ hown (tw hw 45 rfl) (tw hw 46 rfl) (tw hw 47 rfl) e87 (g := (mkF m 163 #[.val (.int p1), .val (.int p2), .val (.int p3), .val (.int p4), .val (.ref x3), .val (.ref b6), .val (.ref b29), .val (.int (0 : Int32)), .val (.ref b58), .unset, .unset, .unset, .unset] [])) rfl (hb hby at_163) (by decide) (by decide)
          obtain ⟨b88, g88⟩ : ∃ z, z = h87.size := ⟨_, rfl⟩
          rw [← g88] at A88 D88 st88
          have lt88 : @LT.lt Nat _ b88 h88.size := A88.lt
          have K88 : Keep h87 h88 [] := (Keep.refl _ _).ext E88
          have sz17_K88 := K88.1
          have F88_loc : Fld Z h88 b88 "com/example/links_to_sitemap/linkstositemap/SitemapFileWriter$Entry" "loc" "Ljava/lang/String;" .null := D88 (Or.inr (tw hw 56 rfl)) (ty := (.object "java/lang/String")) (by decide)
          have F88_fields : Fld Z h88 b88 "com/example/links_to_sitemap/linkstositemap/SitemapFileWriter$Entry" "fields" "[Ljava/lang/String;" .null := D88 (Or.inr (tw hw 58 rfl)) (ty := (.array (.object "java/lang/String"))) (by decide)
          obtain ⟨b89, T89, h89, k89, X89, e89, E89, hS89, hk89, hZ89, hown89, st89⟩ := ldcS (s := s) (vm0 := s.vm) X88 hx hZ hown (tw hw 48 rfl) wStr e88 hS0 (by omega) (g := (mkF m 167 #[.val (.int p1), .val (.int p2), .val (.int p3), .val (.int p4), .val (.ref x3), .val (.ref b6), .val (.ref b29), .val (.int (0 : Int32)), .val (.ref b58), .unset, .unset, .unset, .unset] [(.ref b88), (.ref b88)])) rfl (hb hby at_167) (n := 80) (by decide) (by decide) (by decide) (by decide)
          have K89 : Keep h88 h89 [] := (Keep.refl _ _).ext E89
          have sz18_K89 := K89.1
          have C91 := A88.keep K89
          have C92 := F88_loc.keep K89 nin0
          have C93 := F88_fields.keep K89 nin0
          have O94 : Old Z n0 T37.heap := O55.keep K37 (allS (by omega) (all0))
          have O95 : Old Z n0 h58 := O94.keep K58 all0
          have O96 : Old Z n0 h72 := O95.keep K72 (allS (by omega) (all0))
          have O97 : Old Z n0 h82 := O96.keep K82 (allS (by omega) (all0))
          have O98 : Old Z n0 h87 := O97.keep K87 (allS (by omega) (all0))
          have O99 : Old Z n0 h88 := O98.keep K88 all0
          have O100 : Old Z n0 h89 := O99.keep K89 all0
          obtain ⟨_, _, ⟨T90, L90, k90, n90⟩, -, X90, ⟨Lc90, hQ90, l90, y90, z90⟩, st90⟩ := X89.specialBack hx (y := (⟨"com/example/links_to_sitemap/linkstositemap/SitemapFileWriter$Entry", "<init>", "(Ljava/lang/String;[Ljava/lang/String;)V"⟩ : MethodName)) rfl hown89 (mvT hZ89 (tw hw 51 rfl)) (mvT hZ89 (tw hw 52 rfl)) (mvT hZ89 (tw hw 53 rfl)) (by decide) (backOf (W := 1) (rmEntryA l Z a0 hw [] b88 b89 b58  h89 n0 O100 (by omega : @LE.le Nat _ n0 b88) C91 C92 C93) hZ89 (tw hw 53 rfl) (tw hw 47 rfl) (by decide) (by decide)) (g := (mkF m 171 #[.val (.int p1), .val (.int p2), .val (.int p3), .val (.int p4), .val (.ref x3), .val (.ref b6), .val (.ref b29), .val (.int (0 : Int32)), .val (.ref b58), .unset, .unset, .unset, .unset] [(.ref b58), (.ref b89), (.ref b88), (.ref b88)])) rfl (by rw [hml]; rfl) (Steps.refl _) (a := b88) (argsL := [(.ref b89), (.ref b58)]) (rest := [(.ref b88)]) (lenOf pd_10 rfl) rfl (by show 2 * 0 + _ ≤ _; exact Nat.le_of_eq rfl) (hb hby at_171) (fun _ _ => ⟨rfl, e89, (by decide : 12 + 0 ≤ _), (by decide : 112 + 0 ≤ _)⟩)
          dsimp only [Pt.U, Pt.locs, Pt.cells, Pt.slots] at X90 l90 y90 z90 st90 hQ90
          subst l90 y90 z90
          obtain ⟨rfl, N90q, K90, E90, F90⟩ := hQ90
          have sz19_K90 := K90.1
          have N90 := Fr.app N87 N90q
          have O101 : Old Z n0 T90.heap := O100.keep K90 (allS (by omega) (all0))
          obtain ⟨T102, X102, e102, st102⟩ := getS2 X90 hx hZ89 hown89 (host := "") (Or.inl (tw hw 59 rfl)) Via.refl rfl (Sta.ext O101.2 S_0) (g := (mkF m 178 #[.val (.int p1), .val (.int p2), .val (.int p3), .val (.int p4), .val (.ref x3), .val (.ref b6), .val (.ref b29), .val (.int (0 : Int32)), .val (.ref b58), .val (.ref b88), .unset, .unset, .unset] [(.ref b88)])) rfl (hb hby at_178)
          have C104 := V87.keep K88 nin0
          have C105 := C104.keep K89 nin0
          have C106 := C105.keep K90 (ninS (by omega : @Ne Nat b58 b88) (nin0))
          have C107 := E_0.keep K3
          have C108 := C107.keep K6
          have C109 := C108.keep K7
          have C110 := C109.keep K9
          have C111 := C110.keep K11
          have C112 := C111.keep K12
          have C113 := C112.keep K29
          have C114 := C113.keep K30
          have C115 := C114.keep K32
          have C116 := C115.keep K34
          have C117 := C116.keep K36
          have C118 := C117.keep K37
          have C119 := C118.keep K58
          have C120 := C119.keep K72
          have C121 := C120.keep K82
          have C122 := C121.keep K87
          have C123 := C122.keep K88
          have C124 := C123.keep K89
          have C125 := C124.keep K90
          have C126 := F_0.keep K3 nin0
          have C127 := C126.keep K6 nin0
          have C128 := C127.keep K7 nin0
          have C129 := C128.keep K9 (ninS (by omega : @Ne Nat lf0 b7) (nin0))
          have C130 := C129.keep K11 (ninS (by omega : @Ne Nat lf0 b7) (nin0))
          have C131 := C130.keep K12 (ninS (by omega : @Ne Nat lf0 b6) (nin0))
          have C132 := C131.keep K29 nin0
          have C133 := C132.keep K30 nin0
          have C134 := C133.keep K32 (ninS (by omega : @Ne Nat lf0 b30) (nin0))
          have C135 := C134.keep K34 (ninS (by omega : @Ne Nat lf0 b30) (nin0))
          have C136 := C135.keep K36 (ninS (by omega : @Ne Nat lf0 b30) (nin0))
          have C137 := C136.keep K37 (ninS (by omega : @Ne Nat lf0 b29) (nin0))
          have C138 := C137.keep K58 nin0
          have C139 := C138.keep K72 (ninS (by omega : @Ne Nat lf0 b58) (nin0))
          have C140 := C139.keep K82 (ninS (by omega : @Ne Nat lf0 b58) (nin0))
          have C141 := C140.keep K87 (ninS (by omega : @Ne Nat lf0 b58) (nin0))
          have C142 := C141.keep K88 nin0
          have C143 := C142.keep K89 nin0
          have C144 := C143.keep K90 (ninS (by omega : @Ne Nat lf0 b88) (nin0))
          obtain ⟨cq103, kq103, q103a, q103b, q103c⟩ := isOf hZ89 e102 E90
          obtain ⟨_, _, ⟨T103, L103, k103, n103⟩, -, X103, ⟨Lc103, hQ103, l103, y103, z103⟩, st103⟩ := X102.virtualBack hx (y := (⟨"com/example/links_to_sitemap/linkstositemap/SitemapFileWriter$Entry", "field", "(Lcom/example/links_to_sitemap/linkstositemap/LinkField;)Ljava/lang/String;"⟩ : MethodName)) (z := (⟨"com/example/links_to_sitemap/linkstositemap/SitemapFileWriter$Entry", "field", "(Lcom/example/links_to_sitemap/linkstositemap/LinkField;)Ljava/lang/String;"⟩ : MethodName)) hown89 (mvT hZ89 (tw hw 62 rfl)) (mvT hZ89 (tw hw 63 rfl)) (notFace_of_selects (args := #[]) (mvT hZ89 (tw hw 65 rfl))) (mvT hZ89 (tw hw 65 rfl)) (mvT hZ89 (tw hw 64 rfl)) (by decide) (backOf (W := 0) (rmFieldA l Z a0 hw [] b88 lf0 b58 k58 [(.ref x3), (.ref b6), (.ref b29)] (.ref x3) (0 : Int32) T90.heap n0 O101 F90 C106 C125 C144 (by decide) (by decide) rfl rfl) hZ89 (tw hw 66 rfl) (tw hw 47 rfl) (by decide) (by decide)) q103a q103c (g := (mkF m 181 #[.val (.int p1), .val (.int p2), .val (.int p3), .val (.int p4), .val (.ref x3), .val (.ref b6), .val (.ref b29), .val (.int (0 : Int32)), .val (.ref b58), .val (.ref b88), .unset, .unset, .unset] [(.ref lf0), (.ref b88)])) rfl (by rw [hml]; rfl) (Steps.refl _) (argsL := [(.ref lf0)]) (rest := []) (lenOf pd_11 rfl) rfl (by show 2 * 0 + _ ≤ _; exact Nat.le_of_eq rfl) (hb hby at_181) (fun _ _ => ⟨rfl, e102, (by decide : 12 + 0 ≤ _), (by decide : 112 + 0 ≤ _)⟩)
          dsimp only [Pt.U, Pt.locs, Pt.cells, Pt.slots] at X103 l103 y103 z103 st103 hQ103
          subst l103 y103 z103
          obtain ⟨rfl, N103q, H103⟩ := hQ103
          have N103 := Fr.app N90 N103q
          obtain ⟨T145, X145, e145, st145⟩ := getS2 X103 hx hZ89 hown89 (host := "") (Or.inl (tw hw 76 rfl)) Via.refl H103 (Sta.ext O101.2 S_1) (g := (mkF m 188 #[.val (.int p1), .val (.int p2), .val (.int p3), .val (.int p4), .val (.ref x3), .val (.ref b6), .val (.ref b29), .val (.int (0 : Int32)), .val (.ref b58), .val (.ref b88), .val (.ref x3), .unset, .unset] [(.ref b88)])) rfl (hb hby at_188)
          have C147 := E_1.keep K3
          have C148 := C147.keep K6
          have C149 := C148.keep K7
          have C150 := C149.keep K9
          have C151 := C150.keep K11
          have C152 := C151.keep K12
          have C153 := C152.keep K29
          have C154 := C153.keep K30
          have C155 := C154.keep K32
          have C156 := C155.keep K34
          have C157 := C156.keep K36
          have C158 := C157.keep K37
          have C159 := C158.keep K58
          have C160 := C159.keep K72
          have C161 := C160.keep K82
          have C162 := C161.keep K87
          have C163 := C162.keep K88
          have C164 := C163.keep K89
          have C165 := C164.keep K90
          have C166 := F_1.keep K3 nin0
          have C167 := C166.keep K6 nin0
          have C168 := C167.keep K7 nin0
          have C169 := C168.keep K9 (ninS (by omega : @Ne Nat lf1 b7) (nin0))
          have C170 := C169.keep K11 (ninS (by omega : @Ne Nat lf1 b7) (nin0))
          have C171 := C170.keep K12 (ninS (by omega : @Ne Nat lf1 b6) (nin0))
          have C172 := C171.keep K29 nin0
          have C173 := C172.keep K30 nin0
          have C174 := C173.keep K32 (ninS (by omega : @Ne Nat lf1 b30) (nin0))
          have C175 := C174.keep K34 (ninS (by omega : @Ne Nat lf1 b30) (nin0))
          have C176 := C175.keep K36 (ninS (by omega : @Ne Nat lf1 b30) (nin0))
          have C177 := C176.keep K37 (ninS (by omega : @Ne Nat lf1 b29) (nin0))
          have C178 := C177.keep K58 nin0
          have C179 := C178.keep K72 (ninS (by omega : @Ne Nat lf1 b58) (nin0))
          have C180 := C179.keep K82 (ninS (by omega : @Ne Nat lf1 b58) (nin0))
          have C181 := C180.keep K87 (ninS (by omega : @Ne Nat lf1 b58) (nin0))
          have C182 := C181.keep K88 nin0
          have C183 := C182.keep K89 nin0
          have C184 := C183.keep K90 (ninS (by omega : @Ne Nat lf1 b88) (nin0))
          obtain ⟨cq146, kq146, q146a, q146b, q146c⟩ := isOf hZ89 e145 E90
          obtain ⟨_, _, ⟨T146, L146, k146, n146⟩, -, X146, ⟨Lc146, hQ146, l146, y146, z146⟩, st146⟩ := X145.virtualBack hx (y := (⟨"com/example/links_to_sitemap/linkstositemap/SitemapFileWriter$Entry", "field", "(Lcom/example/links_to_sitemap/linkstositemap/LinkField;)Ljava/lang/String;"⟩ : MethodName)) (z := (⟨"com/example/links_to_sitemap/linkstositemap/SitemapFileWriter$Entry", "field", "(Lcom/example/links_to_sitemap/linkstositemap/LinkField;)Ljava/lang/String;"⟩ : MethodName)) hown89 (mvT hZ89 (tw hw 62 rfl)) (mvT hZ89 (tw hw 63 rfl)) (notFace_of_selects (args := #[]) (mvT hZ89 (tw hw 65 rfl))) (mvT hZ89 (tw hw 65 rfl)) (mvT hZ89 (tw hw 64 rfl)) (by decide) (backOf (W := 0) (rmFieldA l Z a0 hw [] b88 lf1 b58 k58 [(.ref x3), (.ref b6), (.ref b29)] (.ref b6) (1 : Int32) T90.heap n0 O101 F90 C106 C165 C184 (by decide) (by decide) rfl rfl) hZ89 (tw hw 66 rfl) (tw hw 47 rfl) (by decide) (by decide)) q146a q146c (g := (mkF m 191 #[.val (.int p1), .val (.int p2), .val (.int p3), .val (.int p4), .val (.ref x3), .val (.ref b6), .val (.ref b29), .val (.int (0 : Int32)), .val (.ref b58), .val (.ref b88), .val (.ref x3), .unset, .unset] [(.ref lf1), (.ref b88)])) rfl (by rw [hml]; rfl) (Steps.refl _) (argsL := [(.ref lf1)]) (rest := []) (lenOf pd_11 rfl) rfl (by show 2 * 0 + _ ≤ _; exact Nat.le_of_eq rfl) (hb hby at_191) (fun _ _ => ⟨rfl, e145, (by decide : 12 + 0 ≤ _), (by decide : 112 + 0 ≤ _)⟩)
          dsimp only [Pt.U, Pt.locs, Pt.cells, Pt.slots] at X146 l146 y146 z146 st146 hQ146
          subst l146 y146 z146
          obtain ⟨rfl, N146q, H146⟩ := hQ146
          have N146 := Fr.app N103 N146q
          obtain ⟨T185, X185, e185, st185⟩ := getS2 X146 hx hZ89 hown89 (host := "") (Or.inl (tw hw 78 rfl)) Via.refl H146 (Sta.ext O101.2 S_2) (g := (mkF m 198 #[.val (.int p1), .val (.int p2), .val (.int p3), .val (.int p4), .val (.ref x3), .val (.ref b6), .val (.ref b29), .val (.int (0 : Int32)), .val (.ref b58), .val (.ref b88), .val (.ref x3), .val (.ref b6), .unset] [(.ref b88)])) rfl (hb hby at_198)
          have C187 := E_2.keep K3
          have C188 := C187.keep K6
          have C189 := C188.keep K7
          have C190 := C189.keep K9
          have C191 := C190.keep K11
          have C192 := C191.keep K12
          have C193 := C192.keep K29
          have C194 := C193.keep K30
          have C195 := C194.keep K32
          have C196 := C195.keep K34
          have C197 := C196.keep K36
          have C198 := C197.keep K37
          have C199 := C198.keep K58
          have C200 := C199.keep K72
          have C201 := C200.keep K82
          have C202 := C201.keep K87
          have C203 := C202.keep K88
          have C204 := C203.keep K89
          have C205 := C204.keep K90
          have C206 := F_2.keep K3 nin0
          have C207 := C206.keep K6 nin0
          have C208 := C207.keep K7 nin0
          have C209 := C208.keep K9 (ninS (by omega : @Ne Nat lf2 b7) (nin0))
          have C210 := C209.keep K11 (ninS (by omega : @Ne Nat lf2 b7) (nin0))
          have C211 := C210.keep K12 (ninS (by omega : @Ne Nat lf2 b6) (nin0))
          have C212 := C211.keep K29 nin0
          have C213 := C212.keep K30 nin0
          have C214 := C213.keep K32 (ninS (by omega : @Ne Nat lf2 b30) (nin0))
          have C215 := C214.keep K34 (ninS (by omega : @Ne Nat lf2 b30) (nin0))
          have C216 := C215.keep K36 (ninS (by omega : @Ne Nat lf2 b30) (nin0))
          have C217 := C216.keep K37 (ninS (by omega : @Ne Nat lf2 b29) (nin0))
          have C218 := C217.keep K58 nin0
          have C219 := C218.keep K72 (ninS (by omega : @Ne Nat lf2 b58) (nin0))
          have C220 := C219.keep K82 (ninS (by omega : @Ne Nat lf2 b58) (nin0))
          have C221 := C220.keep K87 (ninS (by omega : @Ne Nat lf2 b58) (nin0))
          have C222 := C221.keep K88 nin0
          have C223 := C222.keep K89 nin0
          have C224 := C223.keep K90 (ninS (by omega : @Ne Nat lf2 b88) (nin0))
          obtain ⟨cq186, kq186, q186a, q186b, q186c⟩ := isOf hZ89 e185 E90
          obtain ⟨_, _, ⟨T186, L186, k186, n186⟩, -, X186, ⟨Lc186, hQ186, l186, y186, z186⟩, st186⟩ := X185.virtualBack hx (y := (⟨"com/example/links_to_sitemap/linkstositemap/SitemapFileWriter$Entry", "field", "(Lcom/example/links_to_sitemap/linkstositemap/LinkField;)Ljava/lang/String;"⟩ : MethodName)) (z := (⟨"com/example/links_to_sitemap/linkstositemap/SitemapFileWriter$Entry", "field", "(Lcom/example/links_to_sitemap/linkstositemap/LinkField;)Ljava/lang/String;"⟩ : MethodName)) hown89 (mvT hZ89 (tw hw 62 rfl)) (mvT hZ89 (tw hw 63 rfl)) (notFace_of_selects (args := #[]) (mvT hZ89 (tw hw 65 rfl))) (mvT hZ89 (tw hw 65 rfl)) (mvT hZ89 (tw hw 64 rfl)) (by decide) (backOf (W := 0) (rmFieldA l Z a0 hw [] b88 lf2 b58 k58 [(.ref x3), (.ref b6), (.ref b29)] (.ref b29) (2 : Int32) T90.heap n0 O101 F90 C106 C205 C224 (by decide) (by decide) rfl rfl) hZ89 (tw hw 66 rfl) (tw hw 47 rfl) (by decide) (by decide)) q186a q186c (g := (mkF m 201 #[.val (.int p1), .val (.int p2), .val (.int p3), .val (.int p4), .val (.ref x3), .val (.ref b6), .val (.ref b29), .val (.int (0 : Int32)), .val (.ref b58), .val (.ref b88), .val (.ref x3), .val (.ref b6), .unset] [(.ref lf2), (.ref b88)])) rfl (by rw [hml]; rfl) (Steps.refl _) (argsL := [(.ref lf2)]) (rest := []) (lenOf pd_11 rfl) rfl (by show 2 * 0 + _ ≤ _; exact Nat.le_of_eq rfl) (hb hby at_201) (fun _ _ => ⟨rfl, e185, (by decide : 12 + 0 ≤ _), (by decide : 112 + 0 ≤ _)⟩)
          dsimp only [Pt.U, Pt.locs, Pt.cells, Pt.slots] at X186 l186 y186 z186 st186 hQ186
          subst l186 y186 z186
          obtain ⟨rfl, N186q, H186⟩ := hQ186
          have N186 := Fr.app N146 N186q
          have C226 := C71.keep K72
          have C227 := C226.keep K82
          have C228 := C227.keep K87
          have C229 := C228.keep K88
          have C230 := C229.keep K89
          have C231 := C230.keep K90
          obtain ⟨_, _, ⟨T225, L225, k225, n225⟩, -, X225, ⟨Lc225, hQ225, l225, y225, z225⟩, st225⟩ := Jvm.LawKit.callS X186 hx (y := (⟨"com/example/links_to_sitemap/linkstositemap/EntryFieldPinLaw", "same", "(Ljava/lang/String;Ljava/lang/String;)Z"⟩ : MethodName)) hown89 (mvT hZ89 (tw hw 80 rfl)) (mvT hZ89 (tw hw 81 rfl)) (mvT hZ89 (tw hw 82 rfl)) (mvT hZ89 (tw hw 83 rfl)) (by decide) (backOf (W := 0) (rmSameX l Z a0 hw [] x3  T90.heap n0 O101 C231) hZ89 (tw hw 83 rfl) (tw hw 82 rfl) (by decide) (by decide)) (g := (mkF m 236 #[.val (.int p1), .val (.int p2), .val (.int p3), .val (.int p4), .val (.ref x3), .val (.ref b6), .val (.ref b29), .val (.int (0 : Int32)), .val (.ref b58), .val (.ref b88), .val (.ref x3), .val (.ref b6), .val (.ref b29)] [(.ref x3), (.ref x3)])) rfl (by rw [hml]; rfl) (argsL := [(.ref x3), (.ref x3)]) (rest := []) (lenOf pd_13 rfl) rfl (by show 2 * 0 + _ ≤ _; exact Nat.le_of_eq rfl) (hb hby at_236) (fun _ _ => ⟨rfl, H186, (by decide : 12 + 0 ≤ _), (by decide : 112 + 0 ≤ _)⟩)
          dsimp only [Pt.U, Pt.locs, Pt.cells, Pt.slots] at X225 l225 y225 z225 st225 hQ225
          subst l225 y225 z225
          obtain ⟨rfl, N225q, H225⟩ := hQ225
          have N225 := Fr.app N186 N225q
          have C233 := C81.keep K82
          have C234 := C233.keep K87
          have C235 := C234.keep K88
          have C236 := C235.keep K89
          have C237 := C236.keep K90
          obtain ⟨_, _, ⟨T232, L232, k232, n232⟩, -, X232, ⟨Lc232, hQ232, l232, y232, z232⟩, st232⟩ := Jvm.LawKit.callS X225 hx (y := (⟨"com/example/links_to_sitemap/linkstositemap/EntryFieldPinLaw", "same", "(Ljava/lang/String;Ljava/lang/String;)Z"⟩ : MethodName)) hown89 (mvT hZ89 (tw hw 80 rfl)) (mvT hZ89 (tw hw 81 rfl)) (mvT hZ89 (tw hw 82 rfl)) (mvT hZ89 (tw hw 83 rfl)) (by decide) (backOf (W := 0) (rmSameX l Z a0 hw [] b6  T90.heap n0 O101 C237) hZ89 (tw hw 83 rfl) (tw hw 82 rfl) (by decide) (by decide)) (g := (mkF m 246 #[.val (.int p1), .val (.int p2), .val (.int p3), .val (.int p4), .val (.ref x3), .val (.ref b6), .val (.ref b29), .val (.int (0 : Int32)), .val (.ref b58), .val (.ref b88), .val (.ref x3), .val (.ref b6), .val (.ref b29)] [(.ref b6), (.ref b6)])) rfl (by rw [hml]; rfl) (argsL := [(.ref b6), (.ref b6)]) (rest := []) (lenOf pd_13 rfl) rfl (by show 2 * 0 + _ ≤ _; exact Nat.le_of_eq rfl) (hb hby at_246) (fun _ _ => ⟨rfl, H225, (by decide : 12 + 0 ≤ _), (by decide : 112 + 0 ≤ _)⟩)
          dsimp only [Pt.U, Pt.locs, Pt.cells, Pt.slots] at X232 l232 y232 z232 st232 hQ232
          subst l232 y232 z232
          obtain ⟨rfl, N232q, H232⟩ := hQ232
          have N232 := Fr.app N225 N232q
          have C239 := C86.keep K87
          have C240 := C239.keep K88
          have C241 := C240.keep K89
          have C242 := C241.keep K90
          obtain ⟨_, _, ⟨T238, L238, k238, n238⟩, -, X238, ⟨Lc238, hQ238, l238, y238, z238⟩, st238⟩ := Jvm.LawKit.callS X232 hx (y := (⟨"com/example/links_to_sitemap/linkstositemap/EntryFieldPinLaw", "same", "(Ljava/lang/String;Ljava/lang/String;)Z"⟩ : MethodName)) hown89 (mvT hZ89 (tw hw 80 rfl)) (mvT hZ89 (tw hw 81 rfl)) (mvT hZ89 (tw hw 82 rfl)) (mvT hZ89 (tw hw 83 rfl)) (by decide) (backOf (W := 0) (rmSameX l Z a0 hw [] b29  T90.heap n0 O101 C242) hZ89 (tw hw 83 rfl) (tw hw 82 rfl) (by decide) (by decide)) (g := (mkF m 256 #[.val (.int p1), .val (.int p2), .val (.int p3), .val (.int p4), .val (.ref x3), .val (.ref b6), .val (.ref b29), .val (.int (0 : Int32)), .val (.ref b58), .val (.ref b88), .val (.ref x3), .val (.ref b6), .val (.ref b29)] [(.ref b29), (.ref b29)])) rfl (by rw [hml]; rfl) (argsL := [(.ref b29), (.ref b29)]) (rest := []) (lenOf pd_13 rfl) rfl (by show 2 * 0 + _ ≤ _; exact Nat.le_of_eq rfl) (hb hby at_256) (fun _ _ => ⟨rfl, H232, (by decide : 12 + 0 ≤ _), (by decide : 112 + 0 ≤ _)⟩)
          dsimp only [Pt.U, Pt.locs, Pt.cells, Pt.slots] at X238 l238 y238 z238 st238 hQ238
          subst l238 y238 z238
          obtain ⟨rfl, N238q, H238⟩ := hQ238
          have N238 := Fr.app N232 N238q
          obtain ⟨fs, hr, hrun, hended, eR, eW, eI, eS⟩ := Stand.leaveW (s := s) (vm₁ := T89.vm) X238 hS89 (by rw [H238]; omega) (v := some (.int (1 : Int32))) (fun h => by rw [Bd.returns] at h; cases h)
          refine ⟨_, _, pre57 _ ?_, hrun, hended, _, _, rfl, ?_, eR, eW, eI, eS.mono (by decide) (by decide)⟩
          · skip
            show Steps p.tables e below (T37.setTop (mkF m 123 #[.val (.int p1), .val (.int p2), .val (.int p3), .val (.int p4), .val (.ref x3), .val (.ref b6), .val (.ref b29), .unset, .unset, .unset, .unset, .unset, .unset] [(.int (p1 &&& (8 : Int32)))])) _
            refine XS.ifYes X37.here hx rfl (pc0 := 123) (pc' := 130) rfl (hb hby at_123) rfl ((if0 _ _).trans (teq hc56).1) (by decide) (by decide) ?_
            show Steps p.tables e below (T37.setTop (mkF m 130 #[.val (.int p1), .val (.int p2), .val (.int p3), .val (.int p4), .val (.ref x3), .val (.ref b6), .val (.ref b29), .unset, .unset, .unset, .unset, .unset, .unset] [])) _
            refine XS.iconst X37.here hx rfl (hb hby at_130) ?_
            show Steps p.tables e below (T37.setTop (mkF m 131 #[.val (.int p1), .val (.int p2), .val (.int p3), .val (.int p4), .val (.ref x3), .val (.ref b6), .val (.ref b29), .unset, .unset, .unset, .unset, .unset, .unset] [(.int (0 : Int32))])) _
            refine XS.istore X37.here hx rfl (hb hby at_131) rfl (l' := #[.val (.int p1), .val (.int p2), .val (.int p3), .val (.int p4), .val (.ref x3), .val (.ref b6), .val (.ref b29), .val (.int (0 : Int32)), .unset, .unset, .unset, .unset, .unset]) rfl ?_
            show Steps p.tables e below (T37.setTop (mkF m 133 #[.val (.int p1), .val (.int p2), .val (.int p3), .val (.int p4), .val (.ref x3), .val (.ref b6), .val (.ref b29), .val (.int (0 : Int32)), .unset, .unset, .unset, .unset, .unset] [])) _
            refine XS.iload X37.here hx rfl (hb hby at_133) rfl ?_
            show Steps p.tables e below (T37.setTop (mkF m 135 #[.val (.int p1), .val (.int p2), .val (.int p3), .val (.int p4), .val (.ref x3), .val (.ref b6), .val (.ref b29), .val (.int (0 : Int32)), .unset, .unset, .unset, .unset, .unset] [(.int (0 : Int32))])) _
            refine XS.ifYes X37.here hx rfl (pc0 := 135) (pc' := 142) rfl (hb hby at_135) rfl ((if0 _ _).trans (teq (by decide : (0 : Int32) = (0 : Int32))).1) (by decide) (by decide) ?_
            show Steps p.tables e below (T37.setTop (mkF m 142 #[.val (.int p1), .val (.int p2), .val (.int p3), .val (.int p4), .val (.ref x3), .val (.ref b6), .val (.ref b29), .val (.int (0 : Int32)), .unset, .unset, .unset, .unset, .unset] [])) _
            refine XS.iconst X37.here hx rfl (hb hby at_142) ?_
            show Steps p.tables e below (T37.setTop (mkF m 143 #[.val (.int p1), .val (.int p2), .val (.int p3), .val (.int p4), .val (.ref x3), .val (.ref b6), .val (.ref b29), .val (.int (0 : Int32)), .unset, .unset, .unset, .unset, .unset] [(.int (3 : Int32))])) _
            refine st58 _ ?_
            show Steps p.tables e below (T58.setTop (mkF m 146 #[.val (.int p1), .val (.int p2), .val (.int p3), .val (.int p4), .val (.ref x3), .val (.ref b6), .val (.ref b29), .val (.int (0 : Int32)), .unset, .unset, .unset, .unset, .unset] [(.ref b58)])) _
            refine XS.dup X58.here hx rfl (hb hby at_146) rfl rfl ?_
            show Steps p.tables e below (T58.setTop (mkF m 147 #[.val (.int p1), .val (.int p2), .val (.int p3), .val (.int p4), .val (.ref x3), .val (.ref b6), .val (.ref b29), .val (.int (0 : Int32)), .unset, .unset, .unset, .unset, .unset] [(.ref b58), (.ref b58)])) _
            refine XS.iconst X58.here hx rfl (hb hby at_147) ?_
            show Steps p.tables e below (T58.setTop (mkF m 148 #[.val (.int p1), .val (.int p2), .val (.int p3), .val (.int p4), .val (.ref x3), .val (.ref b6), .val (.ref b29), .val (.int (0 : Int32)), .unset, .unset, .unset, .unset, .unset] [(.int (0 : Int32)), (.ref b58), (.ref b58)])) _
            refine XS.aload X58.here hx rfl (hb hby at_148) rfl rfl ?_
            show Steps p.tables e below (T58.setTop (mkF m 150 #[.val (.int p1), .val (.int p2), .val (.int p3), .val (.int p4), .val (.ref x3), .val (.ref b6), .val (.ref b29), .val (.int (0 : Int32)), .unset, .unset, .unset, .unset, .unset] [(.ref x3), (.int (0 : Int32)), (.ref b58), (.ref b58)])) _
            refine st72 _ ?_
            show Steps p.tables e below (T72.setTop (mkF m 151 #[.val (.int p1), .val (.int p2), .val (.int p3), .val (.int p4), .val (.ref x3), .val (.ref b6), .val (.ref b29), .val (.int (0 : Int32)), .unset, .unset, .unset, .unset, .unset] [(.ref b58)])) _
            refine XS.dup X72.here hx rfl (hb hby at_151) rfl rfl ?_
            show Steps p.tables e below (T72.setTop (mkF m 152 #[.val (.int p1), .val (.int p2), .val (.int p3), .val (.int p4), .val (.ref x3), .val (.ref b6), .val (.ref b29), .val (.int (0 : Int32)), .unset, .unset, .unset, .unset, .unset] [(.ref b58), (.ref b58)])) _
            refine XS.iconst X72.here hx rfl (hb hby at_152) ?_
            show Steps p.tables e below (T72.setTop (mkF m 153 #[.val (.int p1), .val (.int p2), .val (.int p3), .val (.int p4), .val (.ref x3), .val (.ref b6), .val (.ref b29), .val (.int (0 : Int32)), .unset, .unset, .unset, .unset, .unset] [(.int (1 : Int32)), (.ref b58), (.ref b58)])) _
            refine XS.aload X72.here hx rfl (hb hby at_153) rfl rfl ?_
            show Steps p.tables e below (T72.setTop (mkF m 155 #[.val (.int p1), .val (.int p2), .val (.int p3), .val (.int p4), .val (.ref x3), .val (.ref b6), .val (.ref b29), .val (.int (0 : Int32)), .unset, .unset, .unset, .unset, .unset] [(.ref b6), (.int (1 : Int32)), (.ref b58), (.ref b58)])) _
            refine st82 _ ?_
            show Steps p.tables e below (T82.setTop (mkF m 156 #[.val (.int p1), .val (.int p2), .val (.int p3), .val (.int p4), .val (.ref x3), .val (.ref b6), .val (.ref b29), .val (.int (0 : Int32)), .unset, .unset, .unset, .unset, .unset] [(.ref b58)])) _
            refine XS.dup X82.here hx rfl (hb hby at_156) rfl rfl ?_
            show Steps p.tables e below (T82.setTop (mkF m 157 #[.val (.int p1), .val (.int p2), .val (.int p3), .val (.int p4), .val (.ref x3), .val (.ref b6), .val (.ref b29), .val (.int (0 : Int32)), .unset, .unset, .unset, .unset, .unset] [(.ref b58), (.ref b58)])) _
            refine XS.iconst X82.here hx rfl (hb hby at_157) ?_
            show Steps p.tables e below (T82.setTop (mkF m 158 #[.val (.int p1), .val (.int p2), .val (.int p3), .val (.int p4), .val (.ref x3), .val (.ref b6), .val (.ref b29), .val (.int (0 : Int32)), .unset, .unset, .unset, .unset, .unset] [(.int (2 : Int32)), (.ref b58), (.ref b58)])) _
            refine XS.aload X82.here hx rfl (hb hby at_158) rfl rfl ?_
            show Steps p.tables e below (T82.setTop (mkF m 160 #[.val (.int p1), .val (.int p2), .val (.int p3), .val (.int p4), .val (.ref x3), .val (.ref b6), .val (.ref b29), .val (.int (0 : Int32)), .unset, .unset, .unset, .unset, .unset] [(.ref b29), (.int (2 : Int32)), (.ref b58), (.ref b58)])) _
            refine st87 _ ?_
            show Steps p.tables e below (T87.setTop (mkF m 161 #[.val (.int p1), .val (.int p2), .val (.int p3), .val (.int p4), .val (.ref x3), .val (.ref b6), .val (.ref b29), .val (.int (0 : Int32)), .unset, .unset, .unset, .unset, .unset] [(.ref b58)])) _
            refine XS.astore X87.here hx rfl (hb hby at_161) rfl rfl (l' := #[.val (.int p1), .val (.int p2), .val (.int p3), .val (.int p4), .val (.ref x3), .val (.ref b6), .val (.ref b29), .val (.int (0 : Int32)), .val (.ref b58), .unset, .unset, .unset, .unset]) rfl ?_
            show Steps p.tables e below (T87.setTop (mkF m 163 #[.val (.int p1), .val (.int p2), .val (.int p3), .val (.int p4), .val (.ref x3), .val (.ref b6), .val (.ref b29), .val (.int (0 : Int32)), .val (.ref b58), .unset, .unset, .unset, .unset] [])) _
            refine st88 _ ?_
            show Steps p.tables e below (T88.setTop (mkF m 166 #[.val (.int p1), .val (.int p2), .val (.int p3), .val (.int p4), .val (.ref x3), .val (.ref b6), .val (.ref b29), .val (.int (0 : Int32)), .val (.ref b58), .unset, .unset, .unset, .unset] [(.ref b88)])) _
            refine XS.dup X88.here hx rfl (hb hby at_166) rfl rfl ?_
            show Steps p.tables e below (T88.setTop (mkF m 167 #[.val (.int p1), .val (.int p2), .val (.int p3), .val (.int p4), .val (.ref x3), .val (.ref b6), .val (.ref b29), .val (.int (0 : Int32)), .val (.ref b58), .unset, .unset, .unset, .unset] [(.ref b88), (.ref b88)])) _
            refine st89 _ ?_
            show Steps p.tables e below (T89.setTop (mkF m 169 #[.val (.int p1), .val (.int p2), .val (.int p3), .val (.int p4), .val (.ref x3), .val (.ref b6), .val (.ref b29), .val (.int (0 : Int32)), .val (.ref b58), .unset, .unset, .unset, .unset] [(.ref b89), (.ref b88), (.ref b88)])) _
            refine XS.aload X89.here hx rfl (hb hby at_169) rfl rfl ?_
            show Steps p.tables e below (T89.setTop (mkF m 171 #[.val (.int p1), .val (.int p2), .val (.int p3), .val (.int p4), .val (.ref x3), .val (.ref b6), .val (.ref b29), .val (.int (0 : Int32)), .val (.ref b58), .unset, .unset, .unset, .unset] [(.ref b58), (.ref b89), (.ref b88), (.ref b88)])) _
            refine st90.trans ?_
            show Steps p.tables e below (T90.setTop (mkF m 174 #[.val (.int p1), .val (.int p2), .val (.int p3), .val (.int p4), .val (.ref x3), .val (.ref b6), .val (.ref b29), .val (.int (0 : Int32)), .val (.ref b58), .unset, .unset, .unset, .unset] [(.ref b88)])) _
            refine XS.astore X90.here hx rfl (hb hby at_174) rfl rfl (l' := #[.val (.int p1), .val (.int p2), .val (.int p3), .val (.int p4), .val (.ref x3), .val (.ref b6), .val (.ref b29), .val (.int (0 : Int32)), .val (.ref b58), .val (.ref b88), .unset, .unset, .unset]) rfl ?_
            show Steps p.tables e below (T90.setTop (mkF m 176 #[.val (.int p1), .val (.int p2), .val (.int p3), .val (.int p4), .val (.ref x3), .val (.ref b6), .val (.ref b29), .val (.int (0 : Int32)), .val (.ref b58), .val (.ref b88), .unset, .unset, .unset] [])) _
            refine XS.aload X90.here hx rfl (hb hby at_176) rfl rfl ?_
            show Steps p.tables e below (T90.setTop (mkF m 178 #[.val (.int p1), .val (.int p2), .val (.int p3), .val (.int p4), .val (.ref x3), .val (.ref b6), .val (.ref b29), .val (.int (0 : Int32)), .val (.ref b58), .val (.ref b88), .unset, .unset, .unset] [(.ref b88)])) _
            refine st102 _ ?_
            show Steps p.tables e below (T102.setTop (mkF m 181 #[.val (.int p1), .val (.int p2), .val (.int p3), .val (.int p4), .val (.ref x3), .val (.ref b6), .val (.ref b29), .val (.int (0 : Int32)), .val (.ref b58), .val (.ref b88), .unset, .unset, .unset] [(.ref lf0), (.ref b88)])) _
            refine st103.trans ?_
            show Steps p.tables e below (T103.setTop (mkF m 184 #[.val (.int p1), .val (.int p2), .val (.int p3), .val (.int p4), .val (.ref x3), .val (.ref b6), .val (.ref b29), .val (.int (0 : Int32)), .val (.ref b58), .val (.ref b88), .unset, .unset, .unset] [(.ref x3)])) _
            refine XS.astore X103.here hx rfl (hb hby at_184) rfl rfl (l' := #[.val (.int p1), .val (.int p2), .val (.int p3), .val (.int p4), .val (.ref x3), .val (.ref b6), .val (.ref b29), .val (.int (0 : Int32)), .val (.ref b58), .val (.ref b88), .val (.ref x3), .unset, .unset]) rfl ?_
            show Steps p.tables e below (T103.setTop (mkF m 186 #[.val (.int p1), .val (.int p2), .val (.int p3), .val (.int p4), .val (.ref x3), .val (.ref b6), .val (.ref b29), .val (.int (0 : Int32)), .val (.ref b58), .val (.ref b88), .val (.ref x3), .unset, .unset] [])) _
            refine XS.aload X103.here hx rfl (hb hby at_186) rfl rfl ?_
            show Steps p.tables e below (T103.setTop (mkF m 188 #[.val (.int p1), .val (.int p2), .val (.int p3), .val (.int p4), .val (.ref x3), .val (.ref b6), .val (.ref b29), .val (.int (0 : Int32)), .val (.ref b58), .val (.ref b88), .val (.ref x3), .unset, .unset] [(.ref b88)])) _
            refine st145 _ ?_
            show Steps p.tables e below (T145.setTop (mkF m 191 #[.val (.int p1), .val (.int p2), .val (.int p3), .val (.int p4), .val (.ref x3), .val (.ref b6), .val (.ref b29), .val (.int (0 : Int32)), .val (.ref b58), .val (.ref b88), .val (.ref x3), .unset, .unset] [(.ref lf1), (.ref b88)])) _
            refine st146.trans ?_
            show Steps p.tables e below (T146.setTop (mkF m 194 #[.val (.int p1), .val (.int p2), .val (.int p3), .val (.int p4), .val (.ref x3), .val (.ref b6), .val (.ref b29), .val (.int (0 : Int32)), .val (.ref b58), .val (.ref b88), .val (.ref x3), .unset, .unset] [(.ref b6)])) _
            refine XS.astore X146.here hx rfl (hb hby at_194) rfl rfl (l' := #[.val (.int p1), .val (.int p2), .val (.int p3), .val (.int p4), .val (.ref x3), .val (.ref b6), .val (.ref b29), .val (.int (0 : Int32)), .val (.ref b58), .val (.ref b88), .val (.ref x3), .val (.ref b6), .unset]) rfl ?_
            show Steps p.tables e below (T146.setTop (mkF m 196 #[.val (.int p1), .val (.int p2), .val (.int p3), .val (.int p4), .val (.ref x3), .val (.ref b6), .val (.ref b29), .val (.int (0 : Int32)), .val (.ref b58), .val (.ref b88), .val (.ref x3), .val (.ref b6), .unset] [])) _
            refine XS.aload X146.here hx rfl (hb hby at_196) rfl rfl ?_
            show Steps p.tables e below (T146.setTop (mkF m 198 #[.val (.int p1), .val (.int p2), .val (.int p3), .val (.int p4), .val (.ref x3), .val (.ref b6), .val (.ref b29), .val (.int (0 : Int32)), .val (.ref b58), .val (.ref b88), .val (.ref x3), .val (.ref b6), .unset] [(.ref b88)])) _
            refine st185 _ ?_
            show Steps p.tables e below (T185.setTop (mkF m 201 #[.val (.int p1), .val (.int p2), .val (.int p3), .val (.int p4), .val (.ref x3), .val (.ref b6), .val (.ref b29), .val (.int (0 : Int32)), .val (.ref b58), .val (.ref b88), .val (.ref x3), .val (.ref b6), .unset] [(.ref lf2), (.ref b88)])) _
            refine st186.trans ?_
            show Steps p.tables e below (T186.setTop (mkF m 204 #[.val (.int p1), .val (.int p2), .val (.int p3), .val (.int p4), .val (.ref x3), .val (.ref b6), .val (.ref b29), .val (.int (0 : Int32)), .val (.ref b58), .val (.ref b88), .val (.ref x3), .val (.ref b6), .unset] [(.ref b29)])) _
            refine XS.astore X186.here hx rfl (hb hby at_204) rfl rfl (l' := #[.val (.int p1), .val (.int p2), .val (.int p3), .val (.int p4), .val (.ref x3), .val (.ref b6), .val (.ref b29), .val (.int (0 : Int32)), .val (.ref b58), .val (.ref b88), .val (.ref x3), .val (.ref b6), .val (.ref b29)]) rfl ?_
            show Steps p.tables e below (T186.setTop (mkF m 206 #[.val (.int p1), .val (.int p2), .val (.int p3), .val (.int p4), .val (.ref x3), .val (.ref b6), .val (.ref b29), .val (.int (0 : Int32)), .val (.ref b58), .val (.ref b88), .val (.ref x3), .val (.ref b6), .val (.ref b29)] [])) _
            refine XS.iload X186.here hx rfl (hb hby at_206) rfl ?_
            show Steps p.tables e below (T186.setTop (mkF m 208 #[.val (.int p1), .val (.int p2), .val (.int p3), .val (.int p4), .val (.ref x3), .val (.ref b6), .val (.ref b29), .val (.int (0 : Int32)), .val (.ref b58), .val (.ref b88), .val (.ref x3), .val (.ref b6), .val (.ref b29)] [(.int (0 : Int32))])) _
            refine XS.ifYes X186.here hx rfl (pc0 := 208) (pc' := 232) rfl (hb hby at_208) rfl ((if0 _ _).trans (teq (by decide : (0 : Int32) = (0 : Int32))).1) (by decide) (by decide) ?_
            show Steps p.tables e below (T186.setTop (mkF m 232 #[.val (.int p1), .val (.int p2), .val (.int p3), .val (.int p4), .val (.ref x3), .val (.ref b6), .val (.ref b29), .val (.int (0 : Int32)), .val (.ref b58), .val (.ref b88), .val (.ref x3), .val (.ref b6), .val (.ref b29)] [])) _
            refine XS.aload X186.here hx rfl (hb hby at_232) rfl rfl ?_
            show Steps p.tables e below (T186.setTop (mkF m 234 #[.val (.int p1), .val (.int p2), .val (.int p3), .val (.int p4), .val (.ref x3), .val (.ref b6), .val (.ref b29), .val (.int (0 : Int32)), .val (.ref b58), .val (.ref b88), .val (.ref x3), .val (.ref b6), .val (.ref b29)] [(.ref x3)])) _
            refine XS.aload X186.here hx rfl (hb hby at_234) rfl rfl ?_
            show Steps p.tables e below (T186.setTop (mkF m 236 #[.val (.int p1), .val (.int p2), .val (.int p3), .val (.int p4), .val (.ref x3), .val (.ref b6), .val (.ref b29), .val (.int (0 : Int32)), .val (.ref b58), .val (.ref b88), .val (.ref x3), .val (.ref b6), .val (.ref b29)] [(.ref x3), (.ref x3)])) _
            refine st225 _ ?_
            show Steps p.tables e below (T225.setTop (mkF m 239 #[.val (.int p1), .val (.int p2), .val (.int p3), .val (.int p4), .val (.ref x3), .val (.ref b6), .val (.ref b29), .val (.int (0 : Int32)), .val (.ref b58), .val (.ref b88), .val (.ref x3), .val (.ref b6), .val (.ref b29)] [(.int (1 : Int32))])) _
            refine XS.ifNo X225.here hx rfl (hb hby at_239) rfl ((if0 _ _).trans (feq (by decide : ¬ ((1 : Int32) = (0 : Int32)))).1) ?_
            show Steps p.tables e below (T225.setTop (mkF m 242 #[.val (.int p1), .val (.int p2), .val (.int p3), .val (.int p4), .val (.ref x3), .val (.ref b6), .val (.ref b29), .val (.int (0 : Int32)), .val (.ref b58), .val (.ref b88), .val (.ref x3), .val (.ref b6), .val (.ref b29)] [])) _
            refine XS.aload X225.here hx rfl (hb hby at_242) rfl rfl ?_
            show Steps p.tables e below (T225.setTop (mkF m 244 #[.val (.int p1), .val (.int p2), .val (.int p3), .val (.int p4), .val (.ref x3), .val (.ref b6), .val (.ref b29), .val (.int (0 : Int32)), .val (.ref b58), .val (.ref b88), .val (.ref x3), .val (.ref b6), .val (.ref b29)] [(.ref b6)])) _
            refine XS.aload X225.here hx rfl (hb hby at_244) rfl rfl ?_
            show Steps p.tables e below (T225.setTop (mkF m 246 #[.val (.int p1), .val (.int p2), .val (.int p3), .val (.int p4), .val (.ref x3), .val (.ref b6), .val (.ref b29), .val (.int (0 : Int32)), .val (.ref b58), .val (.ref b88), .val (.ref x3), .val (.ref b6), .val (.ref b29)] [(.ref b6), (.ref b6)])) _
            refine st232 _ ?_
            show Steps p.tables e below (T232.setTop (mkF m 249 #[.val (.int p1), .val (.int p2), .val (.int p3), .val (.int p4), .val (.ref x3), .val (.ref b6), .val (.ref b29), .val (.int (0 : Int32)), .val (.ref b58), .val (.ref b88), .val (.ref x3), .val (.ref b6), .val (.ref b29)] [(.int (1 : Int32))])) _
            refine XS.ifNo X232.here hx rfl (hb hby at_249) rfl ((if0 _ _).trans (feq (by decide : ¬ ((1 : Int32) = (0 : Int32)))).1) ?_
            show Steps p.tables e below (T232.setTop (mkF m 252 #[.val (.int p1), .val (.int p2), .val (.int p3), .val (.int p4), .val (.ref x3), .val (.ref b6), .val (.ref b29), .val (.int (0 : Int32)), .val (.ref b58), .val (.ref b88), .val (.ref x3), .val (.ref b6), .val (.ref b29)] [])) _
            refine XS.aload X232.here hx rfl (hb hby at_252) rfl rfl ?_
            show Steps p.tables e below (T232.setTop (mkF m 254 #[.val (.int p1), .val (.int p2), .val (.int p3), .val (.int p4), .val (.ref x3), .val (.ref b6), .val (.ref b29), .val (.int (0 : Int32)), .val (.ref b58), .val (.ref b88), .val (.ref x3), .val (.ref b6), .val (.ref b29)] [(.ref b29)])) _
            refine XS.aload X232.here hx rfl (hb hby at_254) rfl rfl ?_
            show Steps p.tables e below (T232.setTop (mkF m 256 #[.val (.int p1), .val (.int p2), .val (.int p3), .val (.int p4), .val (.ref x3), .val (.ref b6), .val (.ref b29), .val (.int (0 : Int32)), .val (.ref b58), .val (.ref b88), .val (.ref x3), .val (.ref b6), .val (.ref b29)] [(.ref b29), (.ref b29)])) _
            refine st238 _ ?_
            show Steps p.tables e below (T238.setTop (mkF m 259 #[.val (.int p1), .val (.int p2), .val (.int p3), .val (.int p4), .val (.ref x3), .val (.ref b6), .val (.ref b29), .val (.int (0 : Int32)), .val (.ref b58), .val (.ref b88), .val (.ref x3), .val (.ref b6), .val (.ref b29)] [(.int (1 : Int32))])) _
            refine XS.ifNo X238.here hx rfl (hb hby at_259) rfl ((if0 _ _).trans (feq (by decide : ¬ ((1 : Int32) = (0 : Int32)))).1) ?_
            show Steps p.tables e below (T238.setTop (mkF m 262 #[.val (.int p1), .val (.int p2), .val (.int p3), .val (.int p4), .val (.ref x3), .val (.ref b6), .val (.ref b29), .val (.int (0 : Int32)), .val (.ref b58), .val (.ref b88), .val (.ref x3), .val (.ref b6), .val (.ref b29)] [])) _
            refine XS.iconst X238.here hx rfl (hb hby at_262) ?_
            show Steps p.tables e below (T238.setTop (mkF m 263 #[.val (.int p1), .val (.int p2), .val (.int p3), .val (.int p4), .val (.ref x3), .val (.ref b6), .val (.ref b29), .val (.int (0 : Int32)), .val (.ref b58), .val (.ref b88), .val (.ref x3), .val (.ref b6), .val (.ref b29)] [(.int (1 : Int32))])) _
            refine XS.goto X238.here hx rfl (pc0 := 263) (pc' := 267) rfl (hb hby at_263) (by decide) (by decide) ?_
            show Steps p.tables e below (T238.setTop (mkF m 267 #[.val (.int p1), .val (.int p2), .val (.int p3), .val (.int p4), .val (.ref x3), .val (.ref b6), .val (.ref b29), .val (.int (0 : Int32)), .val (.ref b58), .val (.ref b88), .val (.ref x3), .val (.ref b6), .val (.ref b29)] [(.int (1 : Int32))])) _
            exact retN X238 hx (t := .boolean) Bd.returns (by simp) (hb hby at_267) hr
          · show Q_rm0 Z p1 p2 p3 p4 cs lf0 lf1 lf2 h0 n0 _ T238.heap _
            rw [H238]
            exact ⟨rfl, N238⟩
        · skip
          obtain ⟨T243, h243, X243, e243, E243, A243, D243, -, st243⟩ := newO X37 hx hZ hown (tw hw 45 rfl) (tw hw 46 rfl) (tw hw 47 rfl) rfl (g := (mkF m 163 #[.val (.int p1), .val (.int p2), .val (.int p3), .val (.int p4), .val (.ref x3), .val (.ref b6), .val (.ref b29), .val (.int (1 : Int32)), .val .null, .unset, .unset, .unset, .unset] [])) rfl (hb hby at_163) (by decide) (by decide)
          obtain ⟨b243, g243⟩ : ∃ z, z = T37.heap.size := ⟨_, rfl⟩
          rw [← g243] at A243 D243 st243
          have lt243 : @LT.lt Nat _ b243 h243.size := A243.lt
          have K243 : Keep T37.heap h243 [] := (Keep.refl _ _).ext E243
          have sz13_K243 := K243.1
          have F243_loc : Fld Z h243 b243 "com/example/links_to_sitemap/linkstositemap/SitemapFileWriter$Entry" "loc" "Ljava/lang/String;" .null := D243 (Or.inr (tw hw 56 rfl)) (ty := (.object "java/lang/String")) (by decide)
          have F243_fields : Fld Z h243 b243 "com/example/links_to_sitemap/linkstositemap/SitemapFileWriter$Entry" "fields" "[Ljava/lang/String;" .null := D243 (Or.inr (tw hw 58 rfl)) (ty := (.array (.object "java/lang/String"))) (by decide)
          obtain ⟨b244, T244, h244, k244, X244, e244, E244, hS244, hk244, hZ244, hown244, st244⟩ := ldcS (s := s) (vm0 := s.vm) X243 hx hZ hown (tw hw 48 rfl) wStr e243 hS0 (by omega) (g := (mkF m 167 #[.val (.int p1), .val (.int p2), .val (.int p3), .val (.int p4), .val (.ref x3), .val (.ref b6), .val (.ref b29), .val (.int (1 : Int32)), .val .null, .unset, .unset, .unset, .unset] [(.ref b243), (.ref b243)])) rfl (hb hby at_167) (n := 80) (by decide) (by decide) (by decide) (by decide)
          have K244 : Keep h243 h244 [] := (Keep.refl _ _).ext E244
          have sz14_K244 := K244.1
          have C246 := A243.keep K244
          have C247 := F243_loc.keep K244 nin0
          have C248 := F243_fields.keep K244 nin0
          have O249 : Old Z n0 T37.heap := O55.keep K37 (allS (by omega) (all0))
          have O250 : Old Z n0 h243 := O249.keep K243 all0
          have O251 : Old Z n0 h244 := O250.keep K244 all0
          obtain ⟨_, _, ⟨T245, L245, k245, n245⟩, -, X245, ⟨Lc245, hQ245, l245, y245, z245⟩, st245⟩ := X244.specialBack hx (y := (⟨"com/example/links_to_sitemap/linkstositemap/SitemapFileWriter$Entry", "<init>", "(Ljava/lang/String;[Ljava/lang/String;)V"⟩ : MethodName)) rfl hown244 (mvT hZ244 (tw hw 51 rfl)) (mvT hZ244 (tw hw 52 rfl)) (mvT hZ244 (tw hw 53 rfl)) (by decide) (backOf (W := 1) (rmEntryN l Z a0 hw [] b243 b244  h244 n0 O251 (by omega : @LE.le Nat _ n0 b243) C246 C247 C248) hZ244 (tw hw 53 rfl) (tw hw 47 rfl) (by decide) (by decide)) (g := (mkF m 171 #[.val (.int p1), .val (.int p2), .val (.int p3), .val (.int p4), .val (.ref x3), .val (.ref b6), .val (.ref b29), .val (.int (1 : Int32)), .val .null, .unset, .unset, .unset, .unset] [.null, (.ref b244), (.ref b243), (.ref b243)])) rfl (by rw [hml]; rfl) (Steps.refl _) (a := b243) (argsL := [(.ref b244), .null]) (rest := [(.ref b243)]) (lenOf pd_10 rfl) rfl (by show 2 * 0 + _ ≤ _; exact Nat.le_of_eq rfl) (hb hby at_171) (fun _ _ => ⟨rfl, e244, (by decide : 11 + 0 ≤ _), (by decide : 109 + 0 ≤ _)⟩)
          dsimp only [Pt.U, Pt.locs, Pt.cells, Pt.slots] at X245 l245 y245 z245 st245 hQ245
          subst l245 y245 z245
          obtain ⟨rfl, N245q, K245, E245, F245⟩ := hQ245
          have sz15_K245 := K245.1
          have N245 := Fr.app N37 N245q
          have O252 : Old Z n0 T245.heap := O251.keep K245 (allS (by omega) (all0))
          obtain ⟨T253, X253, e253, st253⟩ := getS2 X245 hx hZ244 hown244 (host := "") (Or.inl (tw hw 59 rfl)) Via.refl rfl (Sta.ext O252.2 S_0) (g := (mkF m 178 #[.val (.int p1), .val (.int p2), .val (.int p3), .val (.int p4), .val (.ref x3), .val (.ref b6), .val (.ref b29), .val (.int (1 : Int32)), .val .null, .val (.ref b243), .unset, .unset, .unset] [(.ref b243)])) rfl (hb hby at_178)
          obtain ⟨cq254, kq254, q254a, q254b, q254c⟩ := isOf hZ244 e253 E245
          obtain ⟨_, _, ⟨T254, L254, k254, n254⟩, -, X254, ⟨Lc254, hQ254, l254, y254, z254⟩, st254⟩ := X253.virtualBack hx (y := (⟨"com/example/links_to_sitemap/linkstositemap/SitemapFileWriter$Entry", "field", "(Lcom/example/links_to_sitemap/linkstositemap/LinkField;)Ljava/lang/String;"⟩ : MethodName)) (z := (⟨"com/example/links_to_sitemap/linkstositemap/SitemapFileWriter$Entry", "field", "(Lcom/example/links_to_sitemap/linkstositemap/LinkField;)Ljava/lang/String;"⟩ : MethodName)) hown244 (mvT hZ244 (tw hw 62 rfl)) (mvT hZ244 (tw hw 63 rfl)) (notFace_of_selects (args := #[]) (mvT hZ244 (tw hw 65 rfl))) (mvT hZ244 (tw hw 65 rfl)) (mvT hZ244 (tw hw 64 rfl)) (by decide) (backOf (W := 0) (rmFieldN l Z a0 hw [] b243 lf0  T245.heap n0 O252 F245) hZ244 (tw hw 66 rfl) (tw hw 47 rfl) (by decide) (by decide)) q254a q254c (g := (mkF m 181 #[.val (.int p1), .val (.int p2), .val (.int p3), .val (.int p4), .val (.ref x3), .val (.ref b6), .val (.ref b29), .val (.int (1 : Int32)), .val .null, .val (.ref b243), .unset, .unset, .unset] [(.ref lf0), (.ref b243)])) rfl (by rw [hml]; rfl) (Steps.refl _) (argsL := [(.ref lf0)]) (rest := []) (lenOf pd_11 rfl) rfl (by show 2 * 0 + _ ≤ _; exact Nat.le_of_eq rfl) (hb hby at_181) (fun _ _ => ⟨rfl, e253, (by decide : 11 + 0 ≤ _), (by decide : 109 + 0 ≤ _)⟩)
          dsimp only [Pt.U, Pt.locs, Pt.cells, Pt.slots] at X254 l254 y254 z254 st254 hQ254
          subst l254 y254 z254
          obtain ⟨rfl, N254q, H254⟩ := hQ254
          have N254 := Fr.app N245 N254q
          obtain ⟨T255, X255, e255, st255⟩ := getS2 X254 hx hZ244 hown244 (host := "") (Or.inl (tw hw 76 rfl)) Via.refl H254 (Sta.ext O252.2 S_1) (g := (mkF m 188 #[.val (.int p1), .val (.int p2), .val (.int p3), .val (.int p4), .val (.ref x3), .val (.ref b6), .val (.ref b29), .val (.int (1 : Int32)), .val .null, .val (.ref b243), .val .null, .unset, .unset] [(.ref b243)])) rfl (hb hby at_188)
          obtain ⟨cq256, kq256, q256a, q256b, q256c⟩ := isOf hZ244 e255 E245
          obtain ⟨_, _, ⟨T256, L256, k256, n256⟩, -, X256, ⟨Lc256, hQ256, l256, y256, z256⟩, st256⟩ := X255.virtualBack hx (y := (⟨"com/example/links_to_sitemap/linkstositemap/SitemapFileWriter$Entry", "field", "(Lcom/example/links_to_sitemap/linkstositemap/LinkField;)Ljava/lang/String;"⟩ : MethodName)) (z := (⟨"com/example/links_to_sitemap/linkstositemap/SitemapFileWriter$Entry", "field", "(Lcom/example/links_to_sitemap/linkstositemap/LinkField;)Ljava/lang/String;"⟩ : MethodName)) hown244 (mvT hZ244 (tw hw 62 rfl)) (mvT hZ244 (tw hw 63 rfl)) (notFace_of_selects (args := #[]) (mvT hZ244 (tw hw 65 rfl))) (mvT hZ244 (tw hw 65 rfl)) (mvT hZ244 (tw hw 64 rfl)) (by decide) (backOf (W := 0) (rmFieldN l Z a0 hw [] b243 lf1  T245.heap n0 O252 F245) hZ244 (tw hw 66 rfl) (tw hw 47 rfl) (by decide) (by decide)) q256a q256c (g := (mkF m 191 #[.val (.int p1), .val (.int p2), .val (.int p3), .val (.int p4), .val (.ref x3), .val (.ref b6), .val (.ref b29), .val (.int (1 : Int32)), .val .null, .val (.ref b243), .val .null, .unset, .unset] [(.ref lf1), (.ref b243)])) rfl (by rw [hml]; rfl) (Steps.refl _) (argsL := [(.ref lf1)]) (rest := []) (lenOf pd_11 rfl) rfl (by show 2 * 0 + _ ≤ _; exact Nat.le_of_eq rfl) (hb hby at_191) (fun _ _ => ⟨rfl, e255, (by decide : 11 + 0 ≤ _), (by decide : 109 + 0 ≤ _)⟩)
          dsimp only [Pt.U, Pt.locs, Pt.cells, Pt.slots] at X256 l256 y256 z256 st256 hQ256
          subst l256 y256 z256
          obtain ⟨rfl, N256q, H256⟩ := hQ256
          have N256 := Fr.app N254 N256q
          obtain ⟨T257, X257, e257, st257⟩ := getS2 X256 hx hZ244 hown244 (host := "") (Or.inl (tw hw 78 rfl)) Via.refl H256 (Sta.ext O252.2 S_2) (g := (mkF m 198 #[.val (.int p1), .val (.int p2), .val (.int p3), .val (.int p4), .val (.ref x3), .val (.ref b6), .val (.ref b29), .val (.int (1 : Int32)), .val .null, .val (.ref b243), .val .null, .val .null, .unset] [(.ref b243)])) rfl (hb hby at_198)
          obtain ⟨cq258, kq258, q258a, q258b, q258c⟩ := isOf hZ244 e257 E245
          obtain ⟨_, _, ⟨T258, L258, k258, n258⟩, -, X258, ⟨Lc258, hQ258, l258, y258, z258⟩, st258⟩ := X257.virtualBack hx (y := (⟨"com/example/links_to_sitemap/linkstositemap/SitemapFileWriter$Entry", "field", "(Lcom/example/links_to_sitemap/linkstositemap/LinkField;)Ljava/lang/String;"⟩ : MethodName)) (z := (⟨"com/example/links_to_sitemap/linkstositemap/SitemapFileWriter$Entry", "field", "(Lcom/example/links_to_sitemap/linkstositemap/LinkField;)Ljava/lang/String;"⟩ : MethodName)) hown244 (mvT hZ244 (tw hw 62 rfl)) (mvT hZ244 (tw hw 63 rfl)) (notFace_of_selects (args := #[]) (mvT hZ244 (tw hw 65 rfl))) (mvT hZ244 (tw hw 65 rfl)) (mvT hZ244 (tw hw 64 rfl)) (by decide) (backOf (W := 0) (rmFieldN l Z a0 hw [] b243 lf2  T245.heap n0 O252 F245) hZ244 (tw hw 66 rfl) (tw hw 47 rfl) (by decide) (by decide)) q258a q258c (g := (mkF m 201 #[.val (.int p1), .val (.int p2), .val (.int p3), .val (.int p4), .val (.ref x3), .val (.ref b6), .val (.ref b29), .val (.int (1 : Int32)), .val .null, .val (.ref b243), .val .null, .val .null, .unset] [(.ref lf2), (.ref b243)])) rfl (by rw [hml]; rfl) (Steps.refl _) (argsL := [(.ref lf2)]) (rest := []) (lenOf pd_11 rfl) rfl (by show 2 * 0 + _ ≤ _; exact Nat.le_of_eq rfl) (hb hby at_201) (fun _ _ => ⟨rfl, e257, (by decide : 11 + 0 ≤ _), (by decide : 109 + 0 ≤ _)⟩)
          dsimp only [Pt.U, Pt.locs, Pt.cells, Pt.slots] at X258 l258 y258 z258 st258 hQ258
          subst l258 y258 z258
          obtain ⟨rfl, N258q, H258⟩ := hQ258
          have N258 := Fr.app N256 N258q
          obtain ⟨fs, hr, hrun, hended, eR, eW, eI, eS⟩ := Stand.leaveW (s := s) (vm₁ := T244.vm) X258 hS244 (by rw [H258]; omega) (v := some (.int (1 : Int32))) (fun h => by rw [Bd.returns] at h; cases h)
          refine ⟨_, _, pre57 _ ?_, hrun, hended, _, _, rfl, ?_, eR, eW, eI, eS.mono (by decide) (by decide)⟩
          · skip
            show Steps p.tables e below (T37.setTop (mkF m 123 #[.val (.int p1), .val (.int p2), .val (.int p3), .val (.int p4), .val (.ref x3), .val (.ref b6), .val (.ref b29), .unset, .unset, .unset, .unset, .unset, .unset] [(.int (p1 &&& (8 : Int32)))])) _
            refine XS.ifNo X37.here hx rfl (hb hby at_123) rfl ((if0 _ _).trans (feq hc56).1) ?_
            show Steps p.tables e below (T37.setTop (mkF m 126 #[.val (.int p1), .val (.int p2), .val (.int p3), .val (.int p4), .val (.ref x3), .val (.ref b6), .val (.ref b29), .unset, .unset, .unset, .unset, .unset, .unset] [])) _
            refine XS.iconst X37.here hx rfl (hb hby at_126) ?_
            show Steps p.tables e below (T37.setTop (mkF m 127 #[.val (.int p1), .val (.int p2), .val (.int p3), .val (.int p4), .val (.ref x3), .val (.ref b6), .val (.ref b29), .unset, .unset, .unset, .unset, .unset, .unset] [(.int (1 : Int32))])) _
            refine XS.goto X37.here hx rfl (pc0 := 127) (pc' := 131) rfl (hb hby at_127) (by decide) (by decide) ?_
            show Steps p.tables e below (T37.setTop (mkF m 131 #[.val (.int p1), .val (.int p2), .val (.int p3), .val (.int p4), .val (.ref x3), .val (.ref b6), .val (.ref b29), .unset, .unset, .unset, .unset, .unset, .unset] [(.int (1 : Int32))])) _
            refine XS.istore X37.here hx rfl (hb hby at_131) rfl (l' := #[.val (.int p1), .val (.int p2), .val (.int p3), .val (.int p4), .val (.ref x3), .val (.ref b6), .val (.ref b29), .val (.int (1 : Int32)), .unset, .unset, .unset, .unset, .unset]) rfl ?_
            show Steps p.tables e below (T37.setTop (mkF m 133 #[.val (.int p1), .val (.int p2), .val (.int p3), .val (.int p4), .val (.ref x3), .val (.ref b6), .val (.ref b29), .val (.int (1 : Int32)), .unset, .unset, .unset, .unset, .unset] [])) _
            refine XS.iload X37.here hx rfl (hb hby at_133) rfl ?_
            show Steps p.tables e below (T37.setTop (mkF m 135 #[.val (.int p1), .val (.int p2), .val (.int p3), .val (.int p4), .val (.ref x3), .val (.ref b6), .val (.ref b29), .val (.int (1 : Int32)), .unset, .unset, .unset, .unset, .unset] [(.int (1 : Int32))])) _
            refine XS.ifNo X37.here hx rfl (hb hby at_135) rfl ((if0 _ _).trans (feq (by decide : ¬ ((1 : Int32) = (0 : Int32)))).1) ?_
            show Steps p.tables e below (T37.setTop (mkF m 138 #[.val (.int p1), .val (.int p2), .val (.int p3), .val (.int p4), .val (.ref x3), .val (.ref b6), .val (.ref b29), .val (.int (1 : Int32)), .unset, .unset, .unset, .unset, .unset] [])) _
            refine XS.aconstNull X37.here hx rfl (hb hby at_138) ?_
            show Steps p.tables e below (T37.setTop (mkF m 139 #[.val (.int p1), .val (.int p2), .val (.int p3), .val (.int p4), .val (.ref x3), .val (.ref b6), .val (.ref b29), .val (.int (1 : Int32)), .unset, .unset, .unset, .unset, .unset] [.null])) _
            refine XS.goto X37.here hx rfl (pc0 := 139) (pc' := 161) rfl (hb hby at_139) (by decide) (by decide) ?_
            show Steps p.tables e below (T37.setTop (mkF m 161 #[.val (.int p1), .val (.int p2), .val (.int p3), .val (.int p4), .val (.ref x3), .val (.ref b6), .val (.ref b29), .val (.int (1 : Int32)), .unset, .unset, .unset, .unset, .unset] [.null])) _
            refine XS.astore X37.here hx rfl (hb hby at_161) rfl rfl (l' := #[.val (.int p1), .val (.int p2), .val (.int p3), .val (.int p4), .val (.ref x3), .val (.ref b6), .val (.ref b29), .val (.int (1 : Int32)), .val .null, .unset, .unset, .unset, .unset]) rfl ?_
            show Steps p.tables e below (T37.setTop (mkF m 163 #[.val (.int p1), .val (.int p2), .val (.int p3), .val (.int p4), .val (.ref x3), .val (.ref b6), .val (.ref b29), .val (.int (1 : Int32)), .val .null, .unset, .unset, .unset, .unset] [])) _
            refine st243 _ ?_
            show Steps p.tables e below (T243.setTop (mkF m 166 #[.val (.int p1), .val (.int p2), .val (.int p3), .val (.int p4), .val (.ref x3), .val (.ref b6), .val (.ref b29), .val (.int (1 : Int32)), .val .null, .unset, .unset, .unset, .unset] [(.ref b243)])) _
            refine XS.dup X243.here hx rfl (hb hby at_166) rfl rfl ?_
            show Steps p.tables e below (T243.setTop (mkF m 167 #[.val (.int p1), .val (.int p2), .val (.int p3), .val (.int p4), .val (.ref x3), .val (.ref b6), .val (.ref b29), .val (.int (1 : Int32)), .val .null, .unset, .unset, .unset, .unset] [(.ref b243), (.ref b243)])) _
            refine st244 _ ?_
            show Steps p.tables e below (T244.setTop (mkF m 169 #[.val (.int p1), .val (.int p2), .val (.int p3), .val (.int p4), .val (.ref x3), .val (.ref b6), .val (.ref b29), .val (.int (1 : Int32)), .val .null, .unset, .unset, .unset, .unset] [(.ref b244), (.ref b243), (.ref b243)])) _
            refine XS.aload X244.here hx rfl (hb hby at_169) rfl rfl ?_
            show Steps p.tables e below (T244.setTop (mkF m 171 #[.val (.int p1), .val (.int p2), .val (.int p3), .val (.int p4), .val (.ref x3), .val (.ref b6), .val (.ref b29), .val (.int (1 : Int32)), .val .null, .unset, .unset, .unset, .unset] [.null, (.ref b244), (.ref b243), (.ref b243)])) _
            refine st245.trans ?_
            show Steps p.tables e below (T245.setTop (mkF m 174 #[.val (.int p1), .val (.int p2), .val (.int p3), .val (.int p4), .val (.ref x3), .val (.ref b6), .val (.ref b29), .val (.int (1 : Int32)), .val .null, .unset, .unset, .unset, .unset] [(.ref b243)])) _
            refine XS.astore X245.here hx rfl (hb hby at_174) rfl rfl (l' := #[.val (.int p1), .val (.int p2), .val (.int p3), .val (.int p4), .val (.ref x3), .val (.ref b6), .val (.ref b29), .val (.int (1 : Int32)), .val .null, .val (.ref b243), .unset, .unset, .unset]) rfl ?_
            show Steps p.tables e below (T245.setTop (mkF m 176 #[.val (.int p1), .val (.int p2), .val (.int p3), .val (.int p4), .val (.ref x3), .val (.ref b6), .val (.ref b29), .val (.int (1 : Int32)), .val .null, .val (.ref b243), .unset, .unset, .unset] [])) _
            refine XS.aload X245.here hx rfl (hb hby at_176) rfl rfl ?_
            show Steps p.tables e below (T245.setTop (mkF m 178 #[.val (.int p1), .val (.int p2), .val (.int p3), .val (.int p4), .val (.ref x3), .val (.ref b6), .val (.ref b29), .val (.int (1 : Int32)), .val .null, .val (.ref b243), .unset, .unset, .unset] [(.ref b243)])) _
            refine st253 _ ?_
            show Steps p.tables e below (T253.setTop (mkF m 181 #[.val (.int p1), .val (.int p2), .val (.int p3), .val (.int p4), .val (.ref x3), .val (.ref b6), .val (.ref b29), .val (.int (1 : Int32)), .val .null, .val (.ref b243), .unset, .unset, .unset] [(.ref lf0), (.ref b243)])) _
            refine st254.trans ?_
            show Steps p.tables e below (T254.setTop (mkF m 184 #[.val (.int p1), .val (.int p2), .val (.int p3), .val (.int p4), .val (.ref x3), .val (.ref b6), .val (.ref b29), .val (.int (1 : Int32)), .val .null, .val (.ref b243), .unset, .unset, .unset] [.null])) _
            refine XS.astore X254.here hx rfl (hb hby at_184) rfl rfl (l' := #[.val (.int p1), .val (.int p2), .val (.int p3), .val (.int p4), .val (.ref x3), .val (.ref b6), .val (.ref b29), .val (.int (1 : Int32)), .val .null, .val (.ref b243), .val .null, .unset, .unset]) rfl ?_
            show Steps p.tables e below (T254.setTop (mkF m 186 #[.val (.int p1), .val (.int p2), .val (.int p3), .val (.int p4), .val (.ref x3), .val (.ref b6), .val (.ref b29), .val (.int (1 : Int32)), .val .null, .val (.ref b243), .val .null, .unset, .unset] [])) _
            refine XS.aload X254.here hx rfl (hb hby at_186) rfl rfl ?_
            show Steps p.tables e below (T254.setTop (mkF m 188 #[.val (.int p1), .val (.int p2), .val (.int p3), .val (.int p4), .val (.ref x3), .val (.ref b6), .val (.ref b29), .val (.int (1 : Int32)), .val .null, .val (.ref b243), .val .null, .unset, .unset] [(.ref b243)])) _
            refine st255 _ ?_
            show Steps p.tables e below (T255.setTop (mkF m 191 #[.val (.int p1), .val (.int p2), .val (.int p3), .val (.int p4), .val (.ref x3), .val (.ref b6), .val (.ref b29), .val (.int (1 : Int32)), .val .null, .val (.ref b243), .val .null, .unset, .unset] [(.ref lf1), (.ref b243)])) _
            refine st256.trans ?_
            show Steps p.tables e below (T256.setTop (mkF m 194 #[.val (.int p1), .val (.int p2), .val (.int p3), .val (.int p4), .val (.ref x3), .val (.ref b6), .val (.ref b29), .val (.int (1 : Int32)), .val .null, .val (.ref b243), .val .null, .unset, .unset] [.null])) _
            refine XS.astore X256.here hx rfl (hb hby at_194) rfl rfl (l' := #[.val (.int p1), .val (.int p2), .val (.int p3), .val (.int p4), .val (.ref x3), .val (.ref b6), .val (.ref b29), .val (.int (1 : Int32)), .val .null, .val (.ref b243), .val .null, .val .null, .unset]) rfl ?_
            show Steps p.tables e below (T256.setTop (mkF m 196 #[.val (.int p1), .val (.int p2), .val (.int p3), .val (.int p4), .val (.ref x3), .val (.ref b6), .val (.ref b29), .val (.int (1 : Int32)), .val .null, .val (.ref b243), .val .null, .val .null, .unset] [])) _
            refine XS.aload X256.here hx rfl (hb hby at_196) rfl rfl ?_
            show Steps p.tables e below (T256.setTop (mkF m 198 #[.val (.int p1), .val (.int p2), .val (.int p3), .val (.int p4), .val (.ref x3), .val (.ref b6), .val (.ref b29), .val (.int (1 : Int32)), .val .null, .val (.ref b243), .val .null, .val .null, .unset] [(.ref b243)])) _
            refine st257 _ ?_
            show Steps p.tables e below (T257.setTop (mkF m 201 #[.val (.int p1), .val (.int p2), .val (.int p3), .val (.int p4), .val (.ref x3), .val (.ref b6), .val (.ref b29), .val (.int (1 : Int32)), .val .null, .val (.ref b243), .val .null, .val .null, .unset] [(.ref lf2), (.ref b243)])) _
            refine st258.trans ?_
            show Steps p.tables e below (T258.setTop (mkF m 204 #[.val (.int p1), .val (.int p2), .val (.int p3), .val (.int p4), .val (.ref x3), .val (.ref b6), .val (.ref b29), .val (.int (1 : Int32)), .val .null, .val (.ref b243), .val .null, .val .null, .unset] [.null])) _
            refine XS.astore X258.here hx rfl (hb hby at_204) rfl rfl (l' := #[.val (.int p1), .val (.int p2), .val (.int p3), .val (.int p4), .val (.ref x3), .val (.ref b6), .val (.ref b29), .val (.int (1 : Int32)), .val .null, .val (.ref b243), .val .null, .val .null, .val .null]) rfl ?_
            show Steps p.tables e below (T258.setTop (mkF m 206 #[.val (.int p1), .val (.int p2), .val (.int p3), .val (.int p4), .val (.ref x3), .val (.ref b6), .val (.ref b29), .val (.int (1 : Int32)), .val .null, .val (.ref b243), .val .null, .val .null, .val .null] [])) _
            refine XS.iload X258.here hx rfl (hb hby at_206) rfl ?_
            show Steps p.tables e below (T258.setTop (mkF m 208 #[.val (.int p1), .val (.int p2), .val (.int p3), .val (.int p4), .val (.ref x3), .val (.ref b6), .val (.ref b29), .val (.int (1 : Int32)), .val .null, .val (.ref b243), .val .null, .val .null, .val .null] [(.int (1 : Int32))])) _
            refine XS.ifNo X258.here hx rfl (hb hby at_208) rfl ((if0 _ _).trans (feq (by decide : ¬ ((1 : Int32) = (0 : Int32)))).1) ?_
            show Steps p.tables e below (T258.setTop (mkF m 211 #[.val (.int p1), .val (.int p2), .val (.int p3), .val (.int p4), .val (.ref x3), .val (.ref b6), .val (.ref b29), .val (.int (1 : Int32)), .val .null, .val (.ref b243), .val .null, .val .null, .val .null] [])) _
            refine XS.aload X258.here hx rfl (hb hby at_211) rfl rfl ?_
            show Steps p.tables e below (T258.setTop (mkF m 213 #[.val (.int p1), .val (.int p2), .val (.int p3), .val (.int p4), .val (.ref x3), .val (.ref b6), .val (.ref b29), .val (.int (1 : Int32)), .val .null, .val (.ref b243), .val .null, .val .null, .val .null] [.null])) _
            refine XS.ifnonnullNo X258.here hx rfl (hb hby at_213) rfl ?_
            show Steps p.tables e below (T258.setTop (mkF m 216 #[.val (.int p1), .val (.int p2), .val (.int p3), .val (.int p4), .val (.ref x3), .val (.ref b6), .val (.ref b29), .val (.int (1 : Int32)), .val .null, .val (.ref b243), .val .null, .val .null, .val .null] [])) _
            refine XS.aload X258.here hx rfl (hb hby at_216) rfl rfl ?_
            show Steps p.tables e below (T258.setTop (mkF m 218 #[.val (.int p1), .val (.int p2), .val (.int p3), .val (.int p4), .val (.ref x3), .val (.ref b6), .val (.ref b29), .val (.int (1 : Int32)), .val .null, .val (.ref b243), .val .null, .val .null, .val .null] [.null])) _
            refine XS.ifnonnullNo X258.here hx rfl (hb hby at_218) rfl ?_
            show Steps p.tables e below (T258.setTop (mkF m 221 #[.val (.int p1), .val (.int p2), .val (.int p3), .val (.int p4), .val (.ref x3), .val (.ref b6), .val (.ref b29), .val (.int (1 : Int32)), .val .null, .val (.ref b243), .val .null, .val .null, .val .null] [])) _
            refine XS.aload X258.here hx rfl (hb hby at_221) rfl rfl ?_
            show Steps p.tables e below (T258.setTop (mkF m 223 #[.val (.int p1), .val (.int p2), .val (.int p3), .val (.int p4), .val (.ref x3), .val (.ref b6), .val (.ref b29), .val (.int (1 : Int32)), .val .null, .val (.ref b243), .val .null, .val .null, .val .null] [.null])) _
            refine XS.ifnonnullNo X258.here hx rfl (hb hby at_223) rfl ?_
            show Steps p.tables e below (T258.setTop (mkF m 226 #[.val (.int p1), .val (.int p2), .val (.int p3), .val (.int p4), .val (.ref x3), .val (.ref b6), .val (.ref b29), .val (.int (1 : Int32)), .val .null, .val (.ref b243), .val .null, .val .null, .val .null] [])) _
            refine XS.iconst X258.here hx rfl (hb hby at_226) ?_
            show Steps p.tables e below (T258.setTop (mkF m 227 #[.val (.int p1), .val (.int p2), .val (.int p3), .val (.int p4), .val (.ref x3), .val (.ref b6), .val (.ref b29), .val (.int (1 : Int32)), .val .null, .val (.ref b243), .val .null, .val .null, .val .null] [(.int (1 : Int32))])) _
            refine XS.goto X258.here hx rfl (pc0 := 227) (pc' := 231) rfl (hb hby at_227) (by decide) (by decide) ?_
            show Steps p.tables e below (T258.setTop (mkF m 231 #[.val (.int p1), .val (.int p2), .val (.int p3), .val (.int p4), .val (.ref x3), .val (.ref b6), .val (.ref b29), .val (.int (1 : Int32)), .val .null, .val (.ref b243), .val .null, .val .null, .val .null] [(.int (1 : Int32))])) _
            exact retN X258 hx (t := .boolean) Bd.returns (by simp) (hb hby at_231) hr
          · show Q_rm0 Z p1 p2 p3 p4 cs lf0 lf1 lf2 h0 n0 _ T258.heap _
            rw [H258]
            exact ⟨rfl, N258⟩
      · skip
        have pre260 : ∀ t, Steps p.tables e below (T12.setTop (mkF m 123 #[.val (.int p1), .val (.int p2), .val (.int p3), .val (.int p4), .val (.ref x3), .val (.ref b6), .val .null, .unset, .unset, .unset, .unset, .unset, .unset] [(.int (p1 &&& (8 : Int32)))])) t → Steps p.tables e below (s₁.setTop (entryFrame m #[(.int p1), (.int p2), (.int p3), (.int p4)] maxLocals)) t := by
          intro t kt
          refine pre28 _ ?_
          show Steps p.tables e below (T12.setTop (mkF m 67 #[.val (.int p1), .val (.int p2), .val (.int p3), .val (.int p4), .val (.ref x3), .val (.ref b6), .unset, .unset, .unset, .unset, .unset, .unset, .unset] [(.int (p1 &&& (4 : Int32)))])) _
          refine XS.ifNo X12.here hx rfl (hb hby at_67) rfl ((if0 _ _).trans (feq hc27).1) ?_
          show Steps p.tables e below (T12.setTop (mkF m 70 #[.val (.int p1), .val (.int p2), .val (.int p3), .val (.int p4), .val (.ref x3), .val (.ref b6), .unset, .unset, .unset, .unset, .unset, .unset, .unset] [])) _
          refine XS.aconstNull X12.here hx rfl (hb hby at_70) ?_
          show Steps p.tables e below (T12.setTop (mkF m 71 #[.val (.int p1), .val (.int p2), .val (.int p3), .val (.int p4), .val (.ref x3), .val (.ref b6), .unset, .unset, .unset, .unset, .unset, .unset, .unset] [.null])) _
          refine XS.goto X12.here hx rfl (pc0 := 71) (pc' := 117) rfl (hb hby at_71) (by decide) (by decide) ?_
          show Steps p.tables e below (T12.setTop (mkF m 117 #[.val (.int p1), .val (.int p2), .val (.int p3), .val (.int p4), .val (.ref x3), .val (.ref b6), .unset, .unset, .unset, .unset, .unset, .unset, .unset] [.null])) _
          refine XS.astore X12.here hx rfl (hb hby at_117) rfl rfl (l' := #[.val (.int p1), .val (.int p2), .val (.int p3), .val (.int p4), .val (.ref x3), .val (.ref b6), .val .null, .unset, .unset, .unset, .unset, .unset, .unset]) rfl ?_
          show Steps p.tables e below (T12.setTop (mkF m 119 #[.val (.int p1), .val (.int p2), .val (.int p3), .val (.int p4), .val (.ref x3), .val (.ref b6), .val .null, .unset, .unset, .unset, .unset, .unset, .unset] [])) _
          refine XS.iloadN X12.here hx rfl (hb hby at_119) rfl ?_
          show Steps p.tables e below (T12.setTop (mkF m 120 #[.val (.int p1), .val (.int p2), .val (.int p3), .val (.int p4), .val (.ref x3), .val (.ref b6), .val .null, .unset, .unset, .unset, .unset, .unset, .unset] [(.int p1)])) _
          refine XS.bipush X12.here hx rfl (hb hby at_120) ?_
          show Steps p.tables e below (T12.setTop (mkF m 122 #[.val (.int p1), .val (.int p2), .val (.int p3), .val (.int p4), .val (.ref x3), .val (.ref b6), .val .null, .unset, .unset, .unset, .unset, .unset, .unset] [(.int (8 : Int32)), (.int p1)])) _
          refine XS.iand X12.here hx rfl (hb hby at_122) rfl ?_
          exact kt
        by_cases hc259 : (p1 &&& (8 : Int32)) = (0 : Int32)
        · skip
          obtain ⟨T261, h261, k261, X261, e261, E261, A261, O261, st261⟩ := newR X12 hx hZ hown (tw hw 26 rfl) (tw hw 44 rfl) rfl (g := (mkF m 143 #[.val (.int p1), .val (.int p2), .val (.int p3), .val (.int p4), .val (.ref x3), .val (.ref b6), .val .null, .val (.int (0 : Int32)), .unset, .unset, .unset, .unset, .unset] [(.int (3 : Int32))])) rfl (hb hby at_143) rfl (by decide) (cap := 3) (by decide) (by decide) (by decide) (by decide)
          obtain ⟨b261, g261⟩ : ∃ z, z = T12.heap.size := ⟨_, rfl⟩
          rw [← g261] at A261 st261
          have V261 : Arv Z h261 b261 k261 (.object "java/lang/String") (3 : Int32) [.null, .null, .null] .null := (Arv.new A261 (by decide)).pad (pad_rep [] .null 3)
          have lt261 : @LT.lt Nat _ b261 h261.size := V261.lt
          have K261 : Keep T12.heap h261 [] := (Keep.refl _ _).ext E261
          have sz7_K261 := K261.1
          obtain ⟨cl262, Ar262, q262, S262, Nn262, H262, G262⟩ := V261
          have C263 := E3.keep K6
          have C264 := C263.keep K7
          have C265 := C264.keep K9
          have C266 := C265.keep K11
          have C267 := C266.keep K12
          have C268 := C267.keep K261
          obtain ⟨T269, h269, X269, e269, W269, st269⟩ := stR X261 hx hZ e261 Ar262 (j := (0 : Int32)) (inb_of S262 ⟨by decide, by decide⟩) rfl (Sto.ofV Ar262 q262 O261 (Ins.self C268)) (g := (mkF m 150 #[.val (.int p1), .val (.int p2), .val (.int p3), .val (.int p4), .val (.ref x3), .val (.ref b6), .val .null, .val (.int (0 : Int32)), .unset, .unset, .unset, .unset, .unset] [(.ref x3), (.int (0 : Int32)), (.ref b261), (.ref b261)])) rfl rfl (hb hby at_150)
          have V269 : Arv Z h269 b261 k261 (.object "java/lang/String") (3 : Int32) [(.ref x3), .null, .null] .null := Arv.set Ar262 q262 S262 Nn262 H262 G262 rfl W269 0 rfl (Nat.le_of_ble_eq_true rfl)
          have K269 := Keep.of_wr W269
          have N269 := Fr.snoc X269 N12 (by omega : @LE.le Nat _ n0 b261)
          have sz8_K269 := K269.1
          obtain ⟨cl270, Ar270, q270, S270, Nn270, H270, G270⟩ := V269
          have C271 := E12.keep K261
          have C272 := C271.keep K269
          obtain ⟨T273, h273, X273, e273, W273, st273⟩ := stR X269 hx hZ e269 Ar270 (j := (1 : Int32)) (inb_of S270 ⟨by decide, by decide⟩) rfl (Sto.ofV Ar270 q270 O261 (Ins.self C272)) (g := (mkF m 155 #[.val (.int p1), .val (.int p2), .val (.int p3), .val (.int p4), .val (.ref x3), .val (.ref b6), .val .null, .val (.int (0 : Int32)), .unset, .unset, .unset, .unset, .unset] [(.ref b6), (.int (1 : Int32)), (.ref b261), (.ref b261)])) rfl rfl (hb hby at_155)
          have V273 : Arv Z h273 b261 k261 (.object "java/lang/String") (3 : Int32) [(.ref x3), (.ref b6), .null] .null := Arv.set Ar270 q270 S270 Nn270 H270 G270 rfl W273 1 rfl (Nat.le_of_ble_eq_true rfl)
          have K273 := Keep.of_wr W273
          have N273 := Fr.snoc X273 N269 (by omega : @LE.le Nat _ n0 b261)
          have sz9_K273 := K273.1
          obtain ⟨cl274, Ar274, q274, S274, Nn274, H274, G274⟩ := V273
          obtain ⟨T275, h275, X275, e275, W275, st275⟩ := stR X273 hx hZ e273 Ar274 (j := (2 : Int32)) (inb_of S274 ⟨by decide, by decide⟩) rfl (Or.inl rfl) (g := (mkF m 160 #[.val (.int p1), .val (.int p2), .val (.int p3), .val (.int p4), .val (.ref x3), .val (.ref b6), .val .null, .val (.int (0 : Int32)), .unset, .unset, .unset, .unset, .unset] [.null, (.int (2 : Int32)), (.ref b261), (.ref b261)])) rfl rfl (hb hby at_160)
          have V275 : Arv Z h275 b261 k261 (.object "java/lang/String") (3 : Int32) [(.ref x3), (.ref b6), .null] .null := Arv.set Ar274 q274 S274 Nn274 H274 G274 rfl W275 2 rfl (Nat.le_of_ble_eq_true rfl)
          have K275 := Keep.of_wr W275
          have N275 := Fr.snoc X275 N273 (by omega : @LE.le Nat _ n0 b261)
          have sz10_K275 := K275.1
          obtain ⟨T276, h276, X276, e276, E276, A276, D276, -, st276⟩ := newO X275 hx hZ hown (tw hw 45 rfl) (tw hw 46 rfl) (tw hw 47 rfl) e275 (g := (mkF m 163 #[.val (.int p1), .val (.int p2), .val (.int p3), .val (.int p4), .val (.ref x3), .val (.ref b6), .val .null, .val (.int (0 : Int32)), .val (.ref b261), .unset, .unset, .unset, .unset] [])) rfl (hb hby at_163) (by decide) (by decide)
          obtain ⟨b276, g276⟩ : ∃ z, z = h275.size := ⟨_, rfl⟩
          rw [← g276] at A276 D276 st276
          have lt276 : @LT.lt Nat _ b276 h276.size := A276.lt
          have K276 : Keep h275 h276 [] := (Keep.refl _ _).ext E276
          have sz11_K276 := K276.1
          have F276_loc : Fld Z h276 b276 "com/example/links_to_sitemap/linkstositemap/SitemapFileWriter$Entry" "loc" "Ljava/lang/String;" .null := D276 (Or.inr (tw hw 56 rfl)) (ty := (.object "java/lang/String")) (by decide)
          have F276_fields : Fld Z h276 b276 "com/example/links_to_sitemap/linkstositemap/SitemapFileWriter$Entry" "fields" "[Ljava/lang/String;" .null := D276 (Or.inr (tw hw 58 rfl)) (ty := (.array (.object "java/lang/String"))) (by decide)
          obtain ⟨b277, T277, h277, k277, X277, e277, E277, hS277, hk277, hZ277, hown277, st277⟩ := ldcS (s := s) (vm0 := s.vm) X276 hx hZ hown (tw hw 48 rfl) wStr e276 hS0 (by omega) (g := (mkF m 167 #[.val (.int p1), .val (.int p2), .val (.int p3), .val (.int p4), .val (.ref x3), .val (.ref b6), .val .null, .val (.int (0 : Int32)), .val (.ref b261), .unset, .unset, .unset, .unset] [(.ref b276), (.ref b276)])) rfl (hb hby at_167) (n := 80) (by decide) (by decide) (by decide) (by decide)
          have K277 : Keep h276 h277 [] := (Keep.refl _ _).ext E277
          have sz12_K277 := K277.1
          have C279 := A276.keep K277
          have C280 := F276_loc.keep K277 nin0
          have C281 := F276_fields.keep K277 nin0
          have O282 : Old Z n0 T12.heap := O26.keep K12 (allS (by omega) (all0))
          have O283 : Old Z n0 h261 := O282.keep K261 all0
          have O284 : Old Z n0 h269 := O283.keep K269 (allS (by omega) (all0))
          have O285 : Old Z n0 h273 := O284.keep K273 (allS (by omega) (all0))
          have O286 : Old Z n0 h275 := O285.keep K275 (allS (by omega) (all0))
          have O287 : Old Z n0 h276 := O286.keep K276 all0
          have O288 : Old Z n0 h277 := O287.keep K277 all0
          obtain ⟨_, _, ⟨T278, L278, k278, n278⟩, -, X278, ⟨Lc278, hQ278, l278, y278, z278⟩, st278⟩ := X277.specialBack hx (y := (⟨"com/example/links_to_sitemap/linkstositemap/SitemapFileWriter$Entry", "<init>", "(Ljava/lang/String;[Ljava/lang/String;)V"⟩ : MethodName)) rfl hown277 (mvT hZ277 (tw hw 51 rfl)) (mvT hZ277 (tw hw 52 rfl)) (mvT hZ277 (tw hw 53 rfl)) (by decide) (backOf (W := 1) (rmEntryA l Z a0 hw [] b276 b277 b261  h277 n0 O288 (by omega : @LE.le Nat _ n0 b276) C279 C280 C281) hZ277 (tw hw 53 rfl) (tw hw 47 rfl) (by decide) (by decide)) (g := (mkF m 171 #[.val (.int p1), .val (.int p2), .val (.int p3), .val (.int p4), .val (.ref x3), .val (.ref b6), .val .null, .val (.int (0 : Int32)), .val (.ref b261), .unset, .unset, .unset, .unset] [(.ref b261), (.ref b277), (.ref b276), (.ref b276)])) rfl (by rw [hml]; rfl) (Steps.refl _) (a := b276) (argsL := [(.ref b277), (.ref b261)]) (rest := [(.ref b276)]) (lenOf pd_10 rfl) rfl (by show 2 * 0 + _ ≤ _; exact Nat.le_of_eq rfl) (hb hby at_171) (fun _ _ => ⟨rfl, e277, (by decide : 9 + 0 ≤ _), (by decide : 102 + 0 ≤ _)⟩)
          dsimp only [Pt.U, Pt.locs, Pt.cells, Pt.slots] at X278 l278 y278 z278 st278 hQ278
          subst l278 y278 z278
          obtain ⟨rfl, N278q, K278, E278, F278⟩ := hQ278
          have sz13_K278 := K278.1
          have N278 := Fr.app N275 N278q
          have O289 : Old Z n0 T278.heap := O288.keep K278 (allS (by omega) (all0))
          obtain ⟨T290, X290, e290, st290⟩ := getS2 X278 hx hZ277 hown277 (host := "") (Or.inl (tw hw 59 rfl)) Via.refl rfl (Sta.ext O289.2 S_0) (g := (mkF m 178 #[.val (.int p1), .val (.int p2), .val (.int p3), .val (.int p4), .val (.ref x3), .val (.ref b6), .val .null, .val (.int (0 : Int32)), .val (.ref b261), .val (.ref b276), .unset, .unset, .unset] [(.ref b276)])) rfl (hb hby at_178)
          have C292 := V275.keep K276 nin0
          have C293 := C292.keep K277 nin0
          have C294 := C293.keep K278 (ninS (by omega : @Ne Nat b261 b276) (nin0))
          have C295 := E_0.keep K3
          have C296 := C295.keep K6
          have C297 := C296.keep K7
          have C298 := C297.keep K9
          have C299 := C298.keep K11
          have C300 := C299.keep K12
          have C301 := C300.keep K261
          have C302 := C301.keep K269
          have C303 := C302.keep K273
          have C304 := C303.keep K275
          have C305 := C304.keep K276
          have C306 := C305.keep K277
          have C307 := C306.keep K278
          have C308 := F_0.keep K3 nin0
          have C309 := C308.keep K6 nin0
          have C310 := C309.keep K7 nin0
          have C311 := C310.keep K9 (ninS (by omega : @Ne Nat lf0 b7) (nin0))
          have C312 := C311.keep K11 (ninS (by omega : @Ne Nat lf0 b7) (nin0))
          have C313 := C312.keep K12 (ninS (by omega : @Ne Nat lf0 b6) (nin0))
          have C314 := C313.keep K261 nin0
          have C315 := C314.keep K269 (ninS (by omega : @Ne Nat lf0 b261) (nin0))
          have C316 := C315.keep K273 (ninS (by omega : @Ne Nat lf0 b261) (nin0))
          have C317 := C316.keep K275 (ninS (by omega : @Ne Nat lf0 b261) (nin0))
          have C318 := C317.keep K276 nin0
          have C319 := C318.keep K277 nin0
          have C320 := C319.keep K278 (ninS (by omega : @Ne Nat lf0 b276) (nin0))
          obtain ⟨cq291, kq291, q291a, q291b, q291c⟩ := isOf hZ277 e290 E278
          obtain ⟨_, _, ⟨T291, L291, k291, n291⟩, -, X291, ⟨Lc291, hQ291, l291, y291, z291⟩, st291⟩ := X290.virtualBack hx (y := (⟨"com/example/links_to_sitemap/linkstositemap/SitemapFileWriter$Entry", "field", "(Lcom/example/links_to_sitemap/linkstositemap/LinkField;)Ljava/lang/String;"⟩ : MethodName)) (z := (⟨"com/example/links_to_sitemap/linkstositemap/SitemapFileWriter$Entry", "field", "(Lcom/example/links_to_sitemap/linkstositemap/LinkField;)Ljava/lang/String;"⟩ : MethodName)) hown277 (mvT hZ277 (tw hw 62 rfl)) (mvT hZ277 (tw hw 63 rfl)) (notFace_of_selects (args := #[]) (mvT hZ277 (tw hw 65 rfl))) (mvT hZ277 (tw hw 65 rfl)) (mvT hZ277 (tw hw 64 rfl)) (by decide) (backOf (W := 0) (rmFieldA l Z a0 hw [] b276 lf0 b261 k261 [(.ref x3), (.ref b6), .null] (.ref x3) (0 : Int32) T278.heap n0 O289 F278 C294 C307 C320 (by decide) (by decide) rfl rfl) hZ277 (tw hw 66 rfl) (tw hw 47 rfl) (by decide) (by decide)) q291a q291c (g := (mkF m 181 #[.val (.int p1), .val (.int p2), .val (.int p3), .val (.int p4), .val (.ref x3), .val (.ref b6), .val .null, .val (.int (0 : Int32)), .val (.ref b261), .val (.ref b276), .unset, .unset, .unset] [(.ref lf0), (.ref b276)])) rfl (by rw [hml]; rfl) (Steps.refl _) (argsL := [(.ref lf0)]) (rest := []) (lenOf pd_11 rfl) rfl (by show 2 * 0 + _ ≤ _; exact Nat.le_of_eq rfl) (hb hby at_181) (fun _ _ => ⟨rfl, e290, (by decide : 9 + 0 ≤ _), (by decide : 102 + 0 ≤ _)⟩)
          dsimp only [Pt.U, Pt.locs, Pt.cells, Pt.slots] at X291 l291 y291 z291 st291 hQ291
          subst l291 y291 z291
          obtain ⟨rfl, N291q, H291⟩ := hQ291
          have N291 := Fr.app N278 N291q
          obtain ⟨T321, X321, e321, st321⟩ := getS2 X291 hx hZ277 hown277 (host := "") (Or.inl (tw hw 76 rfl)) Via.refl H291 (Sta.ext O289.2 S_1) (g := (mkF m 188 #[.val (.int p1), .val (.int p2), .val (.int p3), .val (.int p4), .val (.ref x3), .val (.ref b6), .val .null, .val (.int (0 : Int32)), .val (.ref b261), .val (.ref b276), .val (.ref x3), .unset, .unset] [(.ref b276)])) rfl (hb hby at_188)
          have C323 := E_1.keep K3
          have C324 := C323.keep K6
          have C325 := C324.keep K7
          have C326 := C325.keep K9
          have C327 := C326.keep K11
          have C328 := C327.keep K12
          have C329 := C328.keep K261
          have C330 := C329.keep K269
          have C331 := C330.keep K273
          have C332 := C331.keep K275
          have C333 := C332.keep K276
          have C334 := C333.keep K277
          have C335 := C334.keep K278
          have C336 := F_1.keep K3 nin0
          have C337 := C336.keep K6 nin0
          have C338 := C337.keep K7 nin0
          have C339 := C338.keep K9 (ninS (by omega : @Ne Nat lf1 b7) (nin0))
          have C340 := C339.keep K11 (ninS (by omega : @Ne Nat lf1 b7) (nin0))
          have C341 := C340.keep K12 (ninS (by omega : @Ne Nat lf1 b6) (nin0))
          have C342 := C341.keep K261 nin0
          have C343 := C342.keep K269 (ninS (by omega : @Ne Nat lf1 b261) (nin0))
          have C344 := C343.keep K273 (ninS (by omega : @Ne Nat lf1 b261) (nin0))
          have C345 := C344.keep K275 (ninS (by omega : @Ne Nat lf1 b261) (nin0))
          have C346 := C345.keep K276 nin0
          have C347 := C346.keep K277 nin0
          have C348 := C347.keep K278 (ninS (by omega : @Ne Nat lf1 b276) (nin0))
          obtain ⟨cq322, kq322, q322a, q322b, q322c⟩ := isOf hZ277 e321 E278
          obtain ⟨_, _, ⟨T322, L322, k322, n322⟩, -, X322, ⟨Lc322, hQ322, l322, y322, z322⟩, st322⟩ := X321.virtualBack hx (y := (⟨"com/example/links_to_sitemap/linkstositemap/SitemapFileWriter$Entry", "field", "(Lcom/example/links_to_sitemap/linkstositemap/LinkField;)Ljava/lang/String;"⟩ : MethodName)) (z := (⟨"com/example/links_to_sitemap/linkstositemap/SitemapFileWriter$Entry", "field", "(Lcom/example/links_to_sitemap/linkstositemap/LinkField;)Ljava/lang/String;"⟩ : MethodName)) hown277 (mvT hZ277 (tw hw 62 rfl)) (mvT hZ277 (tw hw 63 rfl)) (notFace_of_selects (args := #[]) (mvT hZ277 (tw hw 65 rfl))) (mvT hZ277 (tw hw 65 rfl)) (mvT hZ277 (tw hw 64 rfl)) (by decide) (backOf (W := 0) (rmFieldA l Z a0 hw [] b276 lf1 b261 k261 [(.ref x3), (.ref b6), .null] (.ref b6) (1 : Int32) T278.heap n0 O289 F278 C294 C335 C348 (by decide) (by decide) rfl rfl) hZ277 (tw hw 66 rfl) (tw hw 47 rfl) (by decide) (by decide)) q322a q322c (g := (mkF m 191 #[.val (.int p1), .val (.int p2), .val (.int p3), .val (.int p4), .val (.ref x3), .val (.ref b6), .val .null, .val (.int (0 : Int32)), .val (.ref b261), .val (.ref b276), .val (.ref x3), .unset, .unset] [(.ref lf1), (.ref b276)])) rfl (by rw [hml]; rfl) (Steps.refl _) (argsL := [(.ref lf1)]) (rest := []) (lenOf pd_11 rfl) rfl (by show 2 * 0 + _ ≤ _; exact Nat.le_of_eq rfl) (hb hby at_191) (fun _ _ => ⟨rfl, e321, (by decide : 9 + 0 ≤ _), (by decide : 102 + 0 ≤ _)⟩)
          dsimp only [Pt.U, Pt.locs, Pt.cells, Pt.slots] at X322 l322 y322 z322 st322 hQ322
          subst l322 y322 z322
          obtain ⟨rfl, N322q, H322⟩ := hQ322
          have N322 := Fr.app N291 N322q
          obtain ⟨T349, X349, e349, st349⟩ := getS2 X322 hx hZ277 hown277 (host := "") (Or.inl (tw hw 78 rfl)) Via.refl H322 (Sta.ext O289.2 S_2) (g := (mkF m 198 #[.val (.int p1), .val (.int p2), .val (.int p3), .val (.int p4), .val (.ref x3), .val (.ref b6), .val .null, .val (.int (0 : Int32)), .val (.ref b261), .val (.ref b276), .val (.ref x3), .val (.ref b6), .unset] [(.ref b276)])) rfl (hb hby at_198)
          have C351 := E_2.keep K3
          have C352 := C351.keep K6
          have C353 := C352.keep K7
          have C354 := C353.keep K9
          have C355 := C354.keep K11
          have C356 := C355.keep K12
          have C357 := C356.keep K261
          have C358 := C357.keep K269
          have C359 := C358.keep K273
          have C360 := C359.keep K275
          have C361 := C360.keep K276
          have C362 := C361.keep K277
          have C363 := C362.keep K278
          have C364 := F_2.keep K3 nin0
          have C365 := C364.keep K6 nin0
          have C366 := C365.keep K7 nin0
          have C367 := C366.keep K9 (ninS (by omega : @Ne Nat lf2 b7) (nin0))
          have C368 := C367.keep K11 (ninS (by omega : @Ne Nat lf2 b7) (nin0))
          have C369 := C368.keep K12 (ninS (by omega : @Ne Nat lf2 b6) (nin0))
          have C370 := C369.keep K261 nin0
          have C371 := C370.keep K269 (ninS (by omega : @Ne Nat lf2 b261) (nin0))
          have C372 := C371.keep K273 (ninS (by omega : @Ne Nat lf2 b261) (nin0))
          have C373 := C372.keep K275 (ninS (by omega : @Ne Nat lf2 b261) (nin0))
          have C374 := C373.keep K276 nin0
          have C375 := C374.keep K277 nin0
          have C376 := C375.keep K278 (ninS (by omega : @Ne Nat lf2 b276) (nin0))
          obtain ⟨cq350, kq350, q350a, q350b, q350c⟩ := isOf hZ277 e349 E278
          obtain ⟨_, _, ⟨T350, L350, k350, n350⟩, -, X350, ⟨Lc350, hQ350, l350, y350, z350⟩, st350⟩ := X349.virtualBack hx (y := (⟨"com/example/links_to_sitemap/linkstositemap/SitemapFileWriter$Entry", "field", "(Lcom/example/links_to_sitemap/linkstositemap/LinkField;)Ljava/lang/String;"⟩ : MethodName)) (z := (⟨"com/example/links_to_sitemap/linkstositemap/SitemapFileWriter$Entry", "field", "(Lcom/example/links_to_sitemap/linkstositemap/LinkField;)Ljava/lang/String;"⟩ : MethodName)) hown277 (mvT hZ277 (tw hw 62 rfl)) (mvT hZ277 (tw hw 63 rfl)) (notFace_of_selects (args := #[]) (mvT hZ277 (tw hw 65 rfl))) (mvT hZ277 (tw hw 65 rfl)) (mvT hZ277 (tw hw 64 rfl)) (by decide) (backOf (W := 0) (rmFieldA l Z a0 hw [] b276 lf2 b261 k261 [(.ref x3), (.ref b6), .null] .null (2 : Int32) T278.heap n0 O289 F278 C294 C363 C376 (by decide) (by decide) rfl rfl) hZ277 (tw hw 66 rfl) (tw hw 47 rfl) (by decide) (by decide)) q350a q350c (g := (mkF m 201 #[.val (.int p1), .val (.int p2), .val (.int p3), .val (.int p4), .val (.ref x3), .val (.ref b6), .val .null, .val (.int (0 : Int32)), .val (.ref b261), .val (.ref b276), .val (.ref x3), .val (.ref b6), .unset] [(.ref lf2), (.ref b276)])) rfl (by rw [hml]; rfl) (Steps.refl _) (argsL := [(.ref lf2)]) (rest := []) (lenOf pd_11 rfl) rfl (by show 2 * 0 + _ ≤ _; exact Nat.le_of_eq rfl) (hb hby at_201) (fun _ _ => ⟨rfl, e349, (by decide : 9 + 0 ≤ _), (by decide : 102 + 0 ≤ _)⟩)
          dsimp only [Pt.U, Pt.locs, Pt.cells, Pt.slots] at X350 l350 y350 z350 st350 hQ350
          subst l350 y350 z350
          obtain ⟨rfl, N350q, H350⟩ := hQ350
          have N350 := Fr.app N322 N350q
          have C378 := C268.keep K269
          have C379 := C378.keep K273
          have C380 := C379.keep K275
          have C381 := C380.keep K276
          have C382 := C381.keep K277
          have C383 := C382.keep K278
          obtain ⟨_, _, ⟨T377, L377, k377, n377⟩, -, X377, ⟨Lc377, hQ377, l377, y377, z377⟩, st377⟩ := Jvm.LawKit.callS X350 hx (y := (⟨"com/example/links_to_sitemap/linkstositemap/EntryFieldPinLaw", "same", "(Ljava/lang/String;Ljava/lang/String;)Z"⟩ : MethodName)) hown277 (mvT hZ277 (tw hw 80 rfl)) (mvT hZ277 (tw hw 81 rfl)) (mvT hZ277 (tw hw 82 rfl)) (mvT hZ277 (tw hw 83 rfl)) (by decide) (backOf (W := 0) (rmSameX l Z a0 hw [] x3  T278.heap n0 O289 C383) hZ277 (tw hw 83 rfl) (tw hw 82 rfl) (by decide) (by decide)) (g := (mkF m 236 #[.val (.int p1), .val (.int p2), .val (.int p3), .val (.int p4), .val (.ref x3), .val (.ref b6), .val .null, .val (.int (0 : Int32)), .val (.ref b261), .val (.ref b276), .val (.ref x3), .val (.ref b6), .val .null] [(.ref x3), (.ref x3)])) rfl (by rw [hml]; rfl) (argsL := [(.ref x3), (.ref x3)]) (rest := []) (lenOf pd_13 rfl) rfl (by show 2 * 0 + _ ≤ _; exact Nat.le_of_eq rfl) (hb hby at_236) (fun _ _ => ⟨rfl, H350, (by decide : 9 + 0 ≤ _), (by decide : 102 + 0 ≤ _)⟩)
          dsimp only [Pt.U, Pt.locs, Pt.cells, Pt.slots] at X377 l377 y377 z377 st377 hQ377
          subst l377 y377 z377
          obtain ⟨rfl, N377q, H377⟩ := hQ377
          have N377 := Fr.app N350 N377q
          have C385 := C272.keep K273
          have C386 := C385.keep K275
          have C387 := C386.keep K276
          have C388 := C387.keep K277
          have C389 := C388.keep K278
          obtain ⟨_, _, ⟨T384, L384, k384, n384⟩, -, X384, ⟨Lc384, hQ384, l384, y384, z384⟩, st384⟩ := Jvm.LawKit.callS X377 hx (y := (⟨"com/example/links_to_sitemap/linkstositemap/EntryFieldPinLaw", "same", "(Ljava/lang/String;Ljava/lang/String;)Z"⟩ : MethodName)) hown277 (mvT hZ277 (tw hw 80 rfl)) (mvT hZ277 (tw hw 81 rfl)) (mvT hZ277 (tw hw 82 rfl)) (mvT hZ277 (tw hw 83 rfl)) (by decide) (backOf (W := 0) (rmSameX l Z a0 hw [] b6  T278.heap n0 O289 C389) hZ277 (tw hw 83 rfl) (tw hw 82 rfl) (by decide) (by decide)) (g := (mkF m 246 #[.val (.int p1), .val (.int p2), .val (.int p3), .val (.int p4), .val (.ref x3), .val (.ref b6), .val .null, .val (.int (0 : Int32)), .val (.ref b261), .val (.ref b276), .val (.ref x3), .val (.ref b6), .val .null] [(.ref b6), (.ref b6)])) rfl (by rw [hml]; rfl) (argsL := [(.ref b6), (.ref b6)]) (rest := []) (lenOf pd_13 rfl) rfl (by show 2 * 0 + _ ≤ _; exact Nat.le_of_eq rfl) (hb hby at_246) (fun _ _ => ⟨rfl, H377, (by decide : 9 + 0 ≤ _), (by decide : 102 + 0 ≤ _)⟩)
          dsimp only [Pt.U, Pt.locs, Pt.cells, Pt.slots] at X384 l384 y384 z384 st384 hQ384
          subst l384 y384 z384
          obtain ⟨rfl, N384q, H384⟩ := hQ384
          have N384 := Fr.app N377 N384q
          obtain ⟨_, _, ⟨T390, L390, k390, n390⟩, -, X390, ⟨Lc390, hQ390, l390, y390, z390⟩, st390⟩ := Jvm.LawKit.callS X384 hx (y := (⟨"com/example/links_to_sitemap/linkstositemap/EntryFieldPinLaw", "same", "(Ljava/lang/String;Ljava/lang/String;)Z"⟩ : MethodName)) hown277 (mvT hZ277 (tw hw 80 rfl)) (mvT hZ277 (tw hw 81 rfl)) (mvT hZ277 (tw hw 82 rfl)) (mvT hZ277 (tw hw 83 rfl)) (by decide) (backOf (W := 0) (rmSameN l Z a0 hw []   T278.heap n0 O289 ) hZ277 (tw hw 83 rfl) (tw hw 82 rfl) (by decide) (by decide)) (g := (mkF m 256 #[.val (.int p1), .val (.int p2), .val (.int p3), .val (.int p4), .val (.ref x3), .val (.ref b6), .val .null, .val (.int (0 : Int32)), .val (.ref b261), .val (.ref b276), .val (.ref x3), .val (.ref b6), .val .null] [.null, .null])) rfl (by rw [hml]; rfl) (argsL := [.null, .null]) (rest := []) (lenOf pd_13 rfl) rfl (by show 2 * 0 + _ ≤ _; exact Nat.le_of_eq rfl) (hb hby at_256) (fun _ _ => ⟨rfl, H384, (by decide : 9 + 0 ≤ _), (by decide : 102 + 0 ≤ _)⟩)
          dsimp only [Pt.U, Pt.locs, Pt.cells, Pt.slots] at X390 l390 y390 z390 st390 hQ390
          subst l390 y390 z390
          obtain ⟨rfl, N390q, H390⟩ := hQ390
          have N390 := Fr.app N384 N390q
          obtain ⟨fs, hr, hrun, hended, eR, eW, eI, eS⟩ := Stand.leaveW (s := s) (vm₁ := T277.vm) X390 hS277 (by rw [H390]; omega) (v := some (.int (1 : Int32))) (fun h => by rw [Bd.returns] at h; cases h)
          refine ⟨_, _, pre260 _ ?_, hrun, hended, _, _, rfl, ?_, eR, eW, eI, eS.mono (by decide) (by decide)⟩
          · skip
            show Steps p.tables e below (T12.setTop (mkF m 123 #[.val (.int p1), .val (.int p2), .val (.int p3), .val (.int p4), .val (.ref x3), .val (.ref b6), .val .null, .unset, .unset, .unset, .unset, .unset, .unset] [(.int (p1 &&& (8 : Int32)))])) _
            refine XS.ifYes X12.here hx rfl (pc0 := 123) (pc' := 130) rfl (hb hby at_123) rfl ((if0 _ _).trans (teq hc259).1) (by decide) (by decide) ?_
            show Steps p.tables e below (T12.setTop (mkF m 130 #[.val (.int p1), .val (.int p2), .val (.int p3), .val (.int p4), .val (.ref x3), .val (.ref b6), .val .null, .unset, .unset, .unset, .unset, .unset, .unset] [])) _
            refine XS.iconst X12.here hx rfl (hb hby at_130) ?_
            show Steps p.tables e below (T12.setTop (mkF m 131 #[.val (.int p1), .val (.int p2), .val (.int p3), .val (.int p4), .val (.ref x3), .val (.ref b6), .val .null, .unset, .unset, .unset, .unset, .unset, .unset] [(.int (0 : Int32))])) _
            refine XS.istore X12.here hx rfl (hb hby at_131) rfl (l' := #[.val (.int p1), .val (.int p2), .val (.int p3), .val (.int p4), .val (.ref x3), .val (.ref b6), .val .null, .val (.int (0 : Int32)), .unset, .unset, .unset, .unset, .unset]) rfl ?_
            show Steps p.tables e below (T12.setTop (mkF m 133 #[.val (.int p1), .val (.int p2), .val (.int p3), .val (.int p4), .val (.ref x3), .val (.ref b6), .val .null, .val (.int (0 : Int32)), .unset, .unset, .unset, .unset, .unset] [])) _
            refine XS.iload X12.here hx rfl (hb hby at_133) rfl ?_
            show Steps p.tables e below (T12.setTop (mkF m 135 #[.val (.int p1), .val (.int p2), .val (.int p3), .val (.int p4), .val (.ref x3), .val (.ref b6), .val .null, .val (.int (0 : Int32)), .unset, .unset, .unset, .unset, .unset] [(.int (0 : Int32))])) _
            refine XS.ifYes X12.here hx rfl (pc0 := 135) (pc' := 142) rfl (hb hby at_135) rfl ((if0 _ _).trans (teq (by decide : (0 : Int32) = (0 : Int32))).1) (by decide) (by decide) ?_
            show Steps p.tables e below (T12.setTop (mkF m 142 #[.val (.int p1), .val (.int p2), .val (.int p3), .val (.int p4), .val (.ref x3), .val (.ref b6), .val .null, .val (.int (0 : Int32)), .unset, .unset, .unset, .unset, .unset] [])) _
            refine XS.iconst X12.here hx rfl (hb hby at_142) ?_
            show Steps p.tables e below (T12.setTop (mkF m 143 #[.val (.int p1), .val (.int p2), .val (.int p3), .val (.int p4), .val (.ref x3), .val (.ref b6), .val .null, .val (.int (0 : Int32)), .unset, .unset, .unset, .unset, .unset] [(.int (3 : Int32))])) _
            refine st261 _ ?_
            show Steps p.tables e below (T261.setTop (mkF m 146 #[.val (.int p1), .val (.int p2), .val (.int p3), .val (.int p4), .val (.ref x3), .val (.ref b6), .val .null, .val (.int (0 : Int32)), .unset, .unset, .unset, .unset, .unset] [(.ref b261)])) _
            refine XS.dup X261.here hx rfl (hb hby at_146) rfl rfl ?_
            show Steps p.tables e below (T261.setTop (mkF m 147 #[.val (.int p1), .val (.int p2), .val (.int p3), .val (.int p4), .val (.ref x3), .val (.ref b6), .val .null, .val (.int (0 : Int32)), .unset, .unset, .unset, .unset, .unset] [(.ref b261), (.ref b261)])) _
            refine XS.iconst X261.here hx rfl (hb hby at_147) ?_
            show Steps p.tables e below (T261.setTop (mkF m 148 #[.val (.int p1), .val (.int p2), .val (.int p3), .val (.int p4), .val (.ref x3), .val (.ref b6), .val .null, .val (.int (0 : Int32)), .unset, .unset, .unset, .unset, .unset] [(.int (0 : Int32)), (.ref b261), (.ref b261)])) _
            refine XS.aload X261.here hx rfl (hb hby at_148) rfl rfl ?_
            show Steps p.tables e below (T261.setTop (mkF m 150 #[.val (.int p1), .val (.int p2), .val (.int p3), .val (.int p4), .val (.ref x3), .val (.ref b6), .val .null, .val (.int (0 : Int32)), .unset, .unset, .unset, .unset, .unset] [(.ref x3), (.int (0 : Int32)), (.ref b261), (.ref b261)])) _
            refine st269 _ ?_
            show Steps p.tables e below (T269.setTop (mkF m 151 #[.val (.int p1), .val (.int p2), .val (.int p3), .val (.int p4), .val (.ref x3), .val (.ref b6), .val .null, .val (.int (0 : Int32)), .unset, .unset, .unset, .unset, .unset] [(.ref b261)])) _
            refine XS.dup X269.here hx rfl (hb hby at_151) rfl rfl ?_
            show Steps p.tables e below (T269.setTop (mkF m 152 #[.val (.int p1), .val (.int p2), .val (.int p3), .val (.int p4), .val (.ref x3), .val (.ref b6), .val .null, .val (.int (0 : Int32)), .unset, .unset, .unset, .unset, .unset] [(.ref b261), (.ref b261)])) _
            refine XS.iconst X269.here hx rfl (hb hby at_152) ?_
            show Steps p.tables e below (T269.setTop (mkF m 153 #[.val (.int p1), .val (.int p2), .val (.int p3), .val (.int p4), .val (.ref x3), .val (.ref b6), .val .null, .val (.int (0 : Int32)), .unset, .unset, .unset, .unset, .unset] [(.int (1 : Int32)), (.ref b261), (.ref b261)])) _
            refine XS.aload X269.here hx rfl (hb hby at_153) rfl rfl ?_
            show Steps p.tables e below (T269.setTop (mkF m 155 #[.val (.int p1), .val (.int p2), .val (.int p3), .val (.int p4), .val (.ref x3), .val (.ref b6), .val .null, .val (.int (0 : Int32)), .unset, .unset, .unset, .unset, .unset] [(.ref b6), (.int (1 : Int32)), (.ref b261), (.ref b261)])) _
            refine st273 _ ?_
            show Steps p.tables e below (T273.setTop (mkF m 156 #[.val (.int p1), .val (.int p2), .val (.int p3), .val (.int p4), .val (.ref x3), .val (.ref b6), .val .null, .val (.int (0 : Int32)), .unset, .unset, .unset, .unset, .unset] [(.ref b261)])) _
            refine XS.dup X273.here hx rfl (hb hby at_156) rfl rfl ?_
            show Steps p.tables e below (T273.setTop (mkF m 157 #[.val (.int p1), .val (.int p2), .val (.int p3), .val (.int p4), .val (.ref x3), .val (.ref b6), .val .null, .val (.int (0 : Int32)), .unset, .unset, .unset, .unset, .unset] [(.ref b261), (.ref b261)])) _
            refine XS.iconst X273.here hx rfl (hb hby at_157) ?_
            show Steps p.tables e below (T273.setTop (mkF m 158 #[.val (.int p1), .val (.int p2), .val (.int p3), .val (.int p4), .val (.ref x3), .val (.ref b6), .val .null, .val (.int (0 : Int32)), .unset, .unset, .unset, .unset, .unset] [(.int (2 : Int32)), (.ref b261), (.ref b261)])) _
            refine XS.aload X273.here hx rfl (hb hby at_158) rfl rfl ?_
            show Steps p.tables e below (T273.setTop (mkF m 160 #[.val (.int p1), .val (.int p2), .val (.int p3), .val (.int p4), .val (.ref x3), .val (.ref b6), .val .null, .val (.int (0 : Int32)), .unset, .unset, .unset, .unset, .unset] [.null, (.int (2 : Int32)), (.ref b261), (.ref b261)])) _
            refine st275 _ ?_
            show Steps p.tables e below (T275.setTop (mkF m 161 #[.val (.int p1), .val (.int p2), .val (.int p3), .val (.int p4), .val (.ref x3), .val (.ref b6), .val .null, .val (.int (0 : Int32)), .unset, .unset, .unset, .unset, .unset] [(.ref b261)])) _
            refine XS.astore X275.here hx rfl (hb hby at_161) rfl rfl (l' := #[.val (.int p1), .val (.int p2), .val (.int p3), .val (.int p4), .val (.ref x3), .val (.ref b6), .val .null, .val (.int (0 : Int32)), .val (.ref b261), .unset, .unset, .unset, .unset]) rfl ?_
            show Steps p.tables e below (T275.setTop (mkF m 163 #[.val (.int p1), .val (.int p2), .val (.int p3), .val (.int p4), .val (.ref x3), .val (.ref b6), .val .null, .val (.int (0 : Int32)), .val (.ref b261), .unset, .unset, .unset, .unset] [])) _
            refine st276 _ ?_
            show Steps p.tables e below (T276.setTop (mkF m 166 #[.val (.int p1), .val (.int p2), .val (.int p3), .val (.int p4), .val (.ref x3), .val (.ref b6), .val .null, .val (.int (0 : Int32)), .val (.ref b261), .unset, .unset, .unset, .unset] [(.ref b276)])) _
            refine XS.dup X276.here hx rfl (hb hby at_166) rfl rfl ?_
            show Steps p.tables e below (T276.setTop (mkF m 167 #[.val (.int p1), .val (.int p2), .val (.int p3), .val (.int p4), .val (.ref x3), .val (.ref b6), .val .null, .val (.int (0 : Int32)), .val (.ref b261), .unset, .unset, .unset, .unset] [(.ref b276), (.ref b276)])) _
            refine st277 _ ?_
            show Steps p.tables e below (T277.setTop (mkF m 169 #[.val (.int p1), .val (.int p2), .val (.int p3), .val (.int p4), .val (.ref x3), .val (.ref b6), .val .null, .val (.int (0 : Int32)), .val (.ref b261), .unset, .unset, .unset, .unset] [(.ref b277), (.ref b276), (.ref b276)])) _
            refine XS.aload X277.here hx rfl (hb hby at_169) rfl rfl ?_
            show Steps p.tables e below (T277.setTop (mkF m 171 #[.val (.int p1), .val (.int p2), .val (.int p3), .val (.int p4), .val (.ref x3), .val (.ref b6), .val .null, .val (.int (0 : Int32)), .val (.ref b261), .unset, .unset, .unset, .unset] [(.ref b261), (.ref b277), (.ref b276), (.ref b276)])) _
            refine st278.trans ?_
            show Steps p.tables e below (T278.setTop (mkF m 174 #[.val (.int p1), .val (.int p2), .val (.int p3), .val (.int p4), .val (.ref x3), .val (.ref b6), .val .null, .val (.int (0 : Int32)), .val (.ref b261), .unset, .unset, .unset, .unset] [(.ref b276)])) _
            refine XS.astore X278.here hx rfl (hb hby at_174) rfl rfl (l' := #[.val (.int p1), .val (.int p2), .val (.int p3), .val (.int p4), .val (.ref x3), .val (.ref b6), .val .null, .val (.int (0 : Int32)), .val (.ref b261), .val (.ref b276), .unset, .unset, .unset]) rfl ?_
            show Steps p.tables e below (T278.setTop (mkF m 176 #[.val (.int p1), .val (.int p2), .val (.int p3), .val (.int p4), .val (.ref x3), .val (.ref b6), .val .null, .val (.int (0 : Int32)), .val (.ref b261), .val (.ref b276), .unset, .unset, .unset] [])) _
            refine XS.aload X278.here hx rfl (hb hby at_176) rfl rfl ?_
            show Steps p.tables e below (T278.setTop (mkF m 178 #[.val (.int p1), .val (.int p2), .val (.int p3), .val (.int p4), .val (.ref x3), .val (.ref b6), .val .null, .val (.int (0 : Int32)), .val (.ref b261), .val (.ref b276), .unset, .unset, .unset] [(.ref b276)])) _
            refine st290 _ ?_
            show Steps p.tables e below (T290.setTop (mkF m 181 #[.val (.int p1), .val (.int p2), .val (.int p3), .val (.int p4), .val (.ref x3), .val (.ref b6), .val .null, .val (.int (0 : Int32)), .val (.ref b261), .val (.ref b276), .unset, .unset, .unset] [(.ref lf0), (.ref b276)])) _
            refine st291.trans ?_
            show Steps p.tables e below (T291.setTop (mkF m 184 #[.val (.int p1), .val (.int p2), .val (.int p3), .val (.int p4), .val (.ref x3), .val (.ref b6), .val .null, .val (.int (0 : Int32)), .val (.ref b261), .val (.ref b276), .unset, .unset, .unset] [(.ref x3)])) _
            refine XS.astore X291.here hx rfl (hb hby at_184) rfl rfl (l' := #[.val (.int p1), .val (.int p2), .val (.int p3), .val (.int p4), .val (.ref x3), .val (.ref b6), .val .null, .val (.int (0 : Int32)), .val (.ref b261), .val (.ref b276), .val (.ref x3), .unset, .unset]) rfl ?_
            show Steps p.tables e below (T291.setTop (mkF m 186 #[.val (.int p1), .val (.int p2), .val (.int p3), .val (.int p4), .val (.ref x3), .val (.ref b6), .val .null, .val (.int (0 : Int32)), .val (.ref b261), .val (.ref b276), .val (.ref x3), .unset, .unset] [])) _
            refine XS.aload X291.here hx rfl (hb hby at_186) rfl rfl ?_
            show Steps p.tables e below (T291.setTop (mkF m 188 #[.val (.int p1), .val (.int p2), .val (.int p3), .val (.int p4), .val (.ref x3), .val (.ref b6), .val .null, .val (.int (0 : Int32)), .val (.ref b261), .val (.ref b276), .val (.ref x3), .unset, .unset] [(.ref b276)])) _
            refine st321 _ ?_
            show Steps p.tables e below (T321.setTop (mkF m 191 #[.val (.int p1), .val (.int p2), .val (.int p3), .val (.int p4), .val (.ref x3), .val (.ref b6), .val .null, .val (.int (0 : Int32)), .val (.ref b261), .val (.ref b276), .val (.ref x3), .unset, .unset] [(.ref lf1), (.ref b276)])) _
            refine st322.trans ?_
            show Steps p.tables e below (T322.setTop (mkF m 194 #[.val (.int p1), .val (.int p2), .val (.int p3), .val (.int p4), .val (.ref x3), .val (.ref b6), .val .null, .val (.int (0 : Int32)), .val (.ref b261), .val (.ref b276), .val (.ref x3), .unset, .unset] [(.ref b6)])) _
            refine XS.astore X322.here hx rfl (hb hby at_194) rfl rfl (l' := #[.val (.int p1), .val (.int p2), .val (.int p3), .val (.int p4), .val (.ref x3), .val (.ref b6), .val .null, .val (.int (0 : Int32)), .val (.ref b261), .val (.ref b276), .val (.ref x3), .val (.ref b6), .unset]) rfl ?_
            show Steps p.tables e below (T322.setTop (mkF m 196 #[.val (.int p1), .val (.int p2), .val (.int p3), .val (.int p4), .val (.ref x3), .val (.ref b6), .val .null, .val (.int (0 : Int32)), .val (.ref b261), .val (.ref b276), .val (.ref x3), .val (.ref b6), .unset] [])) _
            refine XS.aload X322.here hx rfl (hb hby at_196) rfl rfl ?_
            show Steps p.tables e below (T322.setTop (mkF m 198 #[.val (.int p1), .val (.int p2), .val (.int p3), .val (.int p4), .val (.ref x3), .val (.ref b6), .val .null, .val (.int (0 : Int32)), .val (.ref b261), .val (.ref b276), .val (.ref x3), .val (.ref b6), .unset] [(.ref b276)])) _
            refine st349 _ ?_
            show Steps p.tables e below (T349.setTop (mkF m 201 #[.val (.int p1), .val (.int p2), .val (.int p3), .val (.int p4), .val (.ref x3), .val (.ref b6), .val .null, .val (.int (0 : Int32)), .val (.ref b261), .val (.ref b276), .val (.ref x3), .val (.ref b6), .unset] [(.ref lf2), (.ref b276)])) _
            refine st350.trans ?_
            show Steps p.tables e below (T350.setTop (mkF m 204 #[.val (.int p1), .val (.int p2), .val (.int p3), .val (.int p4), .val (.ref x3), .val (.ref b6), .val .null, .val (.int (0 : Int32)), .val (.ref b261), .val (.ref b276), .val (.ref x3), .val (.ref b6), .unset] [.null])) _
            refine XS.astore X350.here hx rfl (hb hby at_204) rfl rfl (l' := #[.val (.int p1), .val (.int p2), .val (.int p3), .val (.int p4), .val (.ref x3), .val (.ref b6), .val .null, .val (.int (0 : Int32)), .val (.ref b261), .val (.ref b276), .val (.ref x3), .val (.ref b6), .val .null]) rfl ?_
            show Steps p.tables e below (T350.setTop (mkF m 206 #[.val (.int p1), .val (.int p2), .val (.int p3), .val (.int p4), .val (.ref x3), .val (.ref b6), .val .null, .val (.int (0 : Int32)), .val (.ref b261), .val (.ref b276), .val (.ref x3), .val (.ref b6), .val .null] [])) _
            refine XS.iload X350.here hx rfl (hb hby at_206) rfl ?_
            show Steps p.tables e below (T350.setTop (mkF m 208 #[.val (.int p1), .val (.int p2), .val (.int p3), .val (.int p4), .val (.ref x3), .val (.ref b6), .val .null, .val (.int (0 : Int32)), .val (.ref b261), .val (.ref b276), .val (.ref x3), .val (.ref b6), .val .null] [(.int (0 : Int32))])) _
            refine XS.ifYes X350.here hx rfl (pc0 := 208) (pc' := 232) rfl (hb hby at_208) rfl ((if0 _ _).trans (teq (by decide : (0 : Int32) = (0 : Int32))).1) (by decide) (by decide) ?_
            show Steps p.tables e below (T350.setTop (mkF m 232 #[.val (.int p1), .val (.int p2), .val (.int p3), .val (.int p4), .val (.ref x3), .val (.ref b6), .val .null, .val (.int (0 : Int32)), .val (.ref b261), .val (.ref b276), .val (.ref x3), .val (.ref b6), .val .null] [])) _
            refine XS.aload X350.here hx rfl (hb hby at_232) rfl rfl ?_
            show Steps p.tables e below (T350.setTop (mkF m 234 #[.val (.int p1), .val (.int p2), .val (.int p3), .val (.int p4), .val (.ref x3), .val (.ref b6), .val .null, .val (.int (0 : Int32)), .val (.ref b261), .val (.ref b276), .val (.ref x3), .val (.ref b6), .val .null] [(.ref x3)])) _
            refine XS.aload X350.here hx rfl (hb hby at_234) rfl rfl ?_
            show Steps p.tables e below (T350.setTop (mkF m 236 #[.val (.int p1), .val (.int p2), .val (.int p3), .val (.int p4), .val (.ref x3), .val (.ref b6), .val .null, .val (.int (0 : Int32)), .val (.ref b261), .val (.ref b276), .val (.ref x3), .val (.ref b6), .val .null] [(.ref x3), (.ref x3)])) _
            refine st377 _ ?_
            show Steps p.tables e below (T377.setTop (mkF m 239 #[.val (.int p1), .val (.int p2), .val (.int p3), .val (.int p4), .val (.ref x3), .val (.ref b6), .val .null, .val (.int (0 : Int32)), .val (.ref b261), .val (.ref b276), .val (.ref x3), .val (.ref b6), .val .null] [(.int (1 : Int32))])) _
            refine XS.ifNo X377.here hx rfl (hb hby at_239) rfl ((if0 _ _).trans (feq (by decide : ¬ ((1 : Int32) = (0 : Int32)))).1) ?_
            show Steps p.tables e below (T377.setTop (mkF m 242 #[.val (.int p1), .val (.int p2), .val (.int p3), .val (.int p4), .val (.ref x3), .val (.ref b6), .val .null, .val (.int (0 : Int32)), .val (.ref b261), .val (.ref b276), .val (.ref x3), .val (.ref b6), .val .null] [])) _
            refine XS.aload X377.here hx rfl (hb hby at_242) rfl rfl ?_
            show Steps p.tables e below (T377.setTop (mkF m 244 #[.val (.int p1), .val (.int p2), .val (.int p3), .val (.int p4), .val (.ref x3), .val (.ref b6), .val .null, .val (.int (0 : Int32)), .val (.ref b261), .val (.ref b276), .val (.ref x3), .val (.ref b6), .val .null] [(.ref b6)])) _
            refine XS.aload X377.here hx rfl (hb hby at_244) rfl rfl ?_
            show Steps p.tables e below (T377.setTop (mkF m 246 #[.val (.int p1), .val (.int p2), .val (.int p3), .val (.int p4), .val (.ref x3), .val (.ref b6), .val .null, .val (.int (0 : Int32)), .val (.ref b261), .val (.ref b276), .val (.ref x3), .val (.ref b6), .val .null] [(.ref b6), (.ref b6)])) _
            refine st384 _ ?_
            show Steps p.tables e below (T384.setTop (mkF m 249 #[.val (.int p1), .val (.int p2), .val (.int p3), .val (.int p4), .val (.ref x3), .val (.ref b6), .val .null, .val (.int (0 : Int32)), .val (.ref b261), .val (.ref b276), .val (.ref x3), .val (.ref b6), .val .null] [(.int (1 : Int32))])) _
            refine XS.ifNo X384.here hx rfl (hb hby at_249) rfl ((if0 _ _).trans (feq (by decide : ¬ ((1 : Int32) = (0 : Int32)))).1) ?_
            show Steps p.tables e below (T384.setTop (mkF m 252 #[.val (.int p1), .val (.int p2), .val (.int p3), .val (.int p4), .val (.ref x3), .val (.ref b6), .val .null, .val (.int (0 : Int32)), .val (.ref b261), .val (.ref b276), .val (.ref x3), .val (.ref b6), .val .null] [])) _
            refine XS.aload X384.here hx rfl (hb hby at_252) rfl rfl ?_
            show Steps p.tables e below (T384.setTop (mkF m 254 #[.val (.int p1), .val (.int p2), .val (.int p3), .val (.int p4), .val (.ref x3), .val (.ref b6), .val .null, .val (.int (0 : Int32)), .val (.ref b261), .val (.ref b276), .val (.ref x3), .val (.ref b6), .val .null] [.null])) _
            refine XS.aload X384.here hx rfl (hb hby at_254) rfl rfl ?_
            show Steps p.tables e below (T384.setTop (mkF m 256 #[.val (.int p1), .val (.int p2), .val (.int p3), .val (.int p4), .val (.ref x3), .val (.ref b6), .val .null, .val (.int (0 : Int32)), .val (.ref b261), .val (.ref b276), .val (.ref x3), .val (.ref b6), .val .null] [.null, .null])) _
            refine st390 _ ?_
            show Steps p.tables e below (T390.setTop (mkF m 259 #[.val (.int p1), .val (.int p2), .val (.int p3), .val (.int p4), .val (.ref x3), .val (.ref b6), .val .null, .val (.int (0 : Int32)), .val (.ref b261), .val (.ref b276), .val (.ref x3), .val (.ref b6), .val .null] [(.int (1 : Int32))])) _
            refine XS.ifNo X390.here hx rfl (hb hby at_259) rfl ((if0 _ _).trans (feq (by decide : ¬ ((1 : Int32) = (0 : Int32)))).1) ?_
            show Steps p.tables e below (T390.setTop (mkF m 262 #[.val (.int p1), .val (.int p2), .val (.int p3), .val (.int p4), .val (.ref x3), .val (.ref b6), .val .null, .val (.int (0 : Int32)), .val (.ref b261), .val (.ref b276), .val (.ref x3), .val (.ref b6), .val .null] [])) _
            refine XS.iconst X390.here hx rfl (hb hby at_262) ?_
            show Steps p.tables e below (T390.setTop (mkF m 263 #[.val (.int p1), .val (.int p2), .val (.int p3), .val (.int p4), .val (.ref x3), .val (.ref b6), .val .null, .val (.int (0 : Int32)), .val (.ref b261), .val (.ref b276), .val (.ref x3), .val (.ref b6), .val .null] [(.int (1 : Int32))])) _
            refine XS.goto X390.here hx rfl (pc0 := 263) (pc' := 267) rfl (hb hby at_263) (by decide) (by decide) ?_
            show Steps p.tables e below (T390.setTop (mkF m 267 #[.val (.int p1), .val (.int p2), .val (.int p3), .val (.int p4), .val (.ref x3), .val (.ref b6), .val .null, .val (.int (0 : Int32)), .val (.ref b261), .val (.ref b276), .val (.ref x3), .val (.ref b6), .val .null] [(.int (1 : Int32))])) _
            exact retN X390 hx (t := .boolean) Bd.returns (by simp) (hb hby at_267) hr
          · show Q_rm0 Z p1 p2 p3 p4 cs lf0 lf1 lf2 h0 n0 _ T390.heap _
            rw [H390]
            exact ⟨rfl, N390⟩
        · skip
          obtain ⟨T391, h391, X391, e391, E391, A391, D391, -, st391⟩ := newO X12 hx hZ hown (tw hw 45 rfl) (tw hw 46 rfl) (tw hw 47 rfl) rfl (g := (mkF m 163 #[.val (.int p1), .val (.int p2), .val (.int p3), .val (.int p4), .val (.ref x3), .val (.ref b6), .val .null, .val (.int (1 : Int32)), .val .null, .unset, .unset, .unset, .unset] [])) rfl (hb hby at_163) (by decide) (by decide)
          obtain ⟨b391, g391⟩ : ∃ z, z = T12.heap.size := ⟨_, rfl⟩
          rw [← g391] at A391 D391 st391
          have lt391 : @LT.lt Nat _ b391 h391.size := A391.lt
          have K391 : Keep T12.heap h391 [] := (Keep.refl _ _).ext E391
          have sz7_K391 := K391.1
          have F391_loc : Fld Z h391 b391 "com/example/links_to_sitemap/linkstositemap/SitemapFileWriter$Entry" "loc" "Ljava/lang/String;" .null := D391 (Or.inr (tw hw 56 rfl)) (ty := (.object "java/lang/String")) (by decide)
          have F391_fields : Fld Z h391 b391 "com/example/links_to_sitemap/linkstositemap/SitemapFileWriter$Entry" "fields" "[Ljava/lang/String;" .null := D391 (Or.inr (tw hw 58 rfl)) (ty := (.array (.object "java/lang/String"))) (by decide)
          obtain ⟨b392, T392, h392, k392, X392, e392, E392, hS392, hk392, hZ392, hown392, st392⟩ := ldcS (s := s) (vm0 := s.vm) X391 hx hZ hown (tw hw 48 rfl) wStr e391 hS0 (by omega) (g := (mkF m 167 #[.val (.int p1), .val (.int p2), .val (.int p3), .val (.int p4), .val (.ref x3), .val (.ref b6), .val .null, .val (.int (1 : Int32)), .val .null, .unset, .unset, .unset, .unset] [(.ref b391), (.ref b391)])) rfl (hb hby at_167) (n := 80) (by decide) (by decide) (by decide) (by decide)
          have K392 : Keep h391 h392 [] := (Keep.refl _ _).ext E392
          have sz8_K392 := K392.1
          have C394 := A391.keep K392
          have C395 := F391_loc.keep K392 nin0
          have C396 := F391_fields.keep K392 nin0
          have O397 : Old Z n0 T12.heap := O26.keep K12 (allS (by omega) (all0))
          have O398 : Old Z n0 h391 := O397.keep K391 all0
          have O399 : Old Z n0 h392 := O398.keep K392 all0
          obtain ⟨_, _, ⟨T393, L393, k393, n393⟩, -, X393, ⟨Lc393, hQ393, l393, y393, z393⟩, st393⟩ := X392.specialBack hx (y := (⟨"com/example/links_to_sitemap/linkstositemap/SitemapFileWriter$Entry", "<init>", "(Ljava/lang/String;[Ljava/lang/String;)V"⟩ : MethodName)) rfl hown392 (mvT hZ392 (tw hw 51 rfl)) (mvT hZ392 (tw hw 52 rfl)) (mvT hZ392 (tw hw 53 rfl)) (by decide) (backOf (W := 1) (rmEntryN l Z a0 hw [] b391 b392  h392 n0 O399 (by omega : @LE.le Nat _ n0 b391) C394 C395 C396) hZ392 (tw hw 53 rfl) (tw hw 47 rfl) (by decide) (by decide)) (g := (mkF m 171 #[.val (.int p1), .val (.int p2), .val (.int p3), .val (.int p4), .val (.ref x3), .val (.ref b6), .val .null, .val (.int (1 : Int32)), .val .null, .unset, .unset, .unset, .unset] [.null, (.ref b392), (.ref b391), (.ref b391)])) rfl (by rw [hml]; rfl) (Steps.refl _) (a := b391) (argsL := [(.ref b392), .null]) (rest := [(.ref b391)]) (lenOf pd_10 rfl) rfl (by show 2 * 0 + _ ≤ _; exact Nat.le_of_eq rfl) (hb hby at_171) (fun _ _ => ⟨rfl, e392, (by decide : 8 + 0 ≤ _), (by decide : 99 + 0 ≤ _)⟩)
          dsimp only [Pt.U, Pt.locs, Pt.cells, Pt.slots] at X393 l393 y393 z393 st393 hQ393
          subst l393 y393 z393
          obtain ⟨rfl, N393q, K393, E393, F393⟩ := hQ393
          have sz9_K393 := K393.1
          have N393 := Fr.app N12 N393q
          have O400 : Old Z n0 T393.heap := O399.keep K393 (allS (by omega) (all0))
          obtain ⟨T401, X401, e401, st401⟩ := getS2 X393 hx hZ392 hown392 (host := "") (Or.inl (tw hw 59 rfl)) Via.refl rfl (Sta.ext O400.2 S_0) (g := (mkF m 178 #[.val (.int p1), .val (.int p2), .val (.int p3), .val (.int p4), .val (.ref x3), .val (.ref b6), .val .null, .val (.int (1 : Int32)), .val .null, .val (.ref b391), .unset, .unset, .unset] [(.ref b391)])) rfl (hb hby at_178)
          obtain ⟨cq402, kq402, q402a, q402b, q402c⟩ := isOf hZ392 e401 E393
          obtain ⟨_, _, ⟨T402, L402, k402, n402⟩, -, X402, ⟨Lc402, hQ402, l402, y402, z402⟩, st402⟩ := X401.virtualBack hx (y := (⟨"com/example/links_to_sitemap/linkstositemap/SitemapFileWriter$Entry", "field", "(Lcom/example/links_to_sitemap/linkstositemap/LinkField;)Ljava/lang/String;"⟩ : MethodName)) (z := (⟨"com/example/links_to_sitemap/linkstositemap/SitemapFileWriter$Entry", "field", "(Lcom/example/links_to_sitemap/linkstositemap/LinkField;)Ljava/lang/String;"⟩ : MethodName)) hown392 (mvT hZ392 (tw hw 62 rfl)) (mvT hZ392 (tw hw 63 rfl)) (notFace_of_selects (args := #[]) (mvT hZ392 (tw hw 65 rfl))) (mvT hZ392 (tw hw 65 rfl)) (mvT hZ392 (tw hw 64 rfl)) (by decide) (backOf (W := 0) (rmFieldN l Z a0 hw [] b391 lf0  T393.heap n0 O400 F393) hZ392 (tw hw 66 rfl) (tw hw 47 rfl) (by decide) (by decide)) q402a q402c (g := (mkF m 181 #[.val (.int p1), .val (.int p2), .val (.int p3), .val (.int p4), .val (.ref x3), .val (.ref b6), .val .null, .val (.int (1 : Int32)), .val .null, .val (.ref b391), .unset, .unset, .unset] [(.ref lf0), (.ref b391)])) rfl (by rw [hml]; rfl) (Steps.refl _) (argsL := [(.ref lf0)]) (rest := []) (lenOf pd_11 rfl) rfl (by show 2 * 0 + _ ≤ _; exact Nat.le_of_eq rfl) (hb hby at_181) (fun _ _ => ⟨rfl, e401, (by decide : 8 + 0 ≤ _), (by decide : 99 + 0 ≤ _)⟩)
          dsimp only [Pt.U, Pt.locs, Pt.cells, Pt.slots] at X402 l402 y402 z402 st402 hQ402
          subst l402 y402 z402
          obtain ⟨rfl, N402q, H402⟩ := hQ402
          have N402 := Fr.app N393 N402q
          obtain ⟨T403, X403, e403, st403⟩ := getS2 X402 hx hZ392 hown392 (host := "") (Or.inl (tw hw 76 rfl)) Via.refl H402 (Sta.ext O400.2 S_1) (g := (mkF m 188 #[.val (.int p1), .val (.int p2), .val (.int p3), .val (.int p4), .val (.ref x3), .val (.ref b6), .val .null, .val (.int (1 : Int32)), .val .null, .val (.ref b391), .val .null, .unset, .unset] [(.ref b391)])) rfl (hb hby at_188)
          obtain ⟨cq404, kq404, q404a, q404b, q404c⟩ := isOf hZ392 e403 E393
          obtain ⟨_, _, ⟨T404, L404, k404, n404⟩, -, X404, ⟨Lc404, hQ404, l404, y404, z404⟩, st404⟩ := X403.virtualBack hx (y := (⟨"com/example/links_to_sitemap/linkstositemap/SitemapFileWriter$Entry", "field", "(Lcom/example/links_to_sitemap/linkstositemap/LinkField;)Ljava/lang/String;"⟩ : MethodName)) (z := (⟨"com/example/links_to_sitemap/linkstositemap/SitemapFileWriter$Entry", "field", "(Lcom/example/links_to_sitemap/linkstositemap/LinkField;)Ljava/lang/String;"⟩ : MethodName)) hown392 (mvT hZ392 (tw hw 62 rfl)) (mvT hZ392 (tw hw 63 rfl)) (notFace_of_selects (args := #[]) (mvT hZ392 (tw hw 65 rfl))) (mvT hZ392 (tw hw 65 rfl)) (mvT hZ392 (tw hw 64 rfl)) (by decide) (backOf (W := 0) (rmFieldN l Z a0 hw [] b391 lf1  T393.heap n0 O400 F393) hZ392 (tw hw 66 rfl) (tw hw 47 rfl) (by decide) (by decide)) q404a q404c (g := (mkF m 191 #[.val (.int p1), .val (.int p2), .val (.int p3), .val (.int p4), .val (.ref x3), .val (.ref b6), .val .null, .val (.int (1 : Int32)), .val .null, .val (.ref b391), .val .null, .unset, .unset] [(.ref lf1), (.ref b391)])) rfl (by rw [hml]; rfl) (Steps.refl _) (argsL := [(.ref lf1)]) (rest := []) (lenOf pd_11 rfl) rfl (by show 2 * 0 + _ ≤ _; exact Nat.le_of_eq rfl) (hb hby at_191) (fun _ _ => ⟨rfl, e403, (by decide : 8 + 0 ≤ _), (by decide : 99 + 0 ≤ _)⟩)
          dsimp only [Pt.U, Pt.locs, Pt.cells, Pt.slots] at X404 l404 y404 z404 st404 hQ404
          subst l404 y404 z404
          obtain ⟨rfl, N404q, H404⟩ := hQ404
          have N404 := Fr.app N402 N404q
          obtain ⟨T405, X405, e405, st405⟩ := getS2 X404 hx hZ392 hown392 (host := "") (Or.inl (tw hw 78 rfl)) Via.refl H404 (Sta.ext O400.2 S_2) (g := (mkF m 198 #[.val (.int p1), .val (.int p2), .val (.int p3), .val (.int p4), .val (.ref x3), .val (.ref b6), .val .null, .val (.int (1 : Int32)), .val .null, .val (.ref b391), .val .null, .val .null, .unset] [(.ref b391)])) rfl (hb hby at_198)
          obtain ⟨cq406, kq406, q406a, q406b, q406c⟩ := isOf hZ392 e405 E393
          obtain ⟨_, _, ⟨T406, L406, k406, n406⟩, -, X406, ⟨Lc406, hQ406, l406, y406, z406⟩, st406⟩ := X405.virtualBack hx (y := (⟨"com/example/links_to_sitemap/linkstositemap/SitemapFileWriter$Entry", "field", "(Lcom/example/links_to_sitemap/linkstositemap/LinkField;)Ljava/lang/String;"⟩ : MethodName)) (z := (⟨"com/example/links_to_sitemap/linkstositemap/SitemapFileWriter$Entry", "field", "(Lcom/example/links_to_sitemap/linkstositemap/LinkField;)Ljava/lang/String;"⟩ : MethodName)) hown392 (mvT hZ392 (tw hw 62 rfl)) (mvT hZ392 (tw hw 63 rfl)) (notFace_of_selects (args := #[]) (mvT hZ392 (tw hw 65 rfl))) (mvT hZ392 (tw hw 65 rfl)) (mvT hZ392 (tw hw 64 rfl)) (by decide) (backOf (W := 0) (rmFieldN l Z a0 hw [] b391 lf2  T393.heap n0 O400 F393) hZ392 (tw hw 66 rfl) (tw hw 47 rfl) (by decide) (by decide)) q406a q406c (g := (mkF m 201 #[.val (.int p1), .val (.int p2), .val (.int p3), .val (.int p4), .val (.ref x3), .val (.ref b6), .val .null, .val (.int (1 : Int32)), .val .null, .val (.ref b391), .val .null, .val .null, .unset] [(.ref lf2), (.ref b391)])) rfl (by rw [hml]; rfl) (Steps.refl _) (argsL := [(.ref lf2)]) (rest := []) (lenOf pd_11 rfl) rfl (by show 2 * 0 + _ ≤ _; exact Nat.le_of_eq rfl) (hb hby at_201) (fun _ _ => ⟨rfl, e405, (by decide : 8 + 0 ≤ _), (by decide : 99 + 0 ≤ _)⟩)
          dsimp only [Pt.U, Pt.locs, Pt.cells, Pt.slots] at X406 l406 y406 z406 st406 hQ406
          subst l406 y406 z406
          obtain ⟨rfl, N406q, H406⟩ := hQ406
          have N406 := Fr.app N404 N406q
          obtain ⟨fs, hr, hrun, hended, eR, eW, eI, eS⟩ := Stand.leaveW (s := s) (vm₁ := T392.vm) X406 hS392 (by rw [H406]; omega) (v := some (.int (1 : Int32))) (fun h => by rw [Bd.returns] at h; cases h)
          refine ⟨_, _, pre260 _ ?_, hrun, hended, _, _, rfl, ?_, eR, eW, eI, eS.mono (by decide) (by decide)⟩
          · skip
            show Steps p.tables e below (T12.setTop (mkF m 123 #[.val (.int p1), .val (.int p2), .val (.int p3), .val (.int p4), .val (.ref x3), .val (.ref b6), .val .null, .unset, .unset, .unset, .unset, .unset, .unset] [(.int (p1 &&& (8 : Int32)))])) _
            refine XS.ifNo X12.here hx rfl (hb hby at_123) rfl ((if0 _ _).trans (feq hc259).1) ?_
            show Steps p.tables e below (T12.setTop (mkF m 126 #[.val (.int p1), .val (.int p2), .val (.int p3), .val (.int p4), .val (.ref x3), .val (.ref b6), .val .null, .unset, .unset, .unset, .unset, .unset, .unset] [])) _
            refine XS.iconst X12.here hx rfl (hb hby at_126) ?_
            show Steps p.tables e below (T12.setTop (mkF m 127 #[.val (.int p1), .val (.int p2), .val (.int p3), .val (.int p4), .val (.ref x3), .val (.ref b6), .val .null, .unset, .unset, .unset, .unset, .unset, .unset] [(.int (1 : Int32))])) _
            refine XS.goto X12.here hx rfl (pc0 := 127) (pc' := 131) rfl (hb hby at_127) (by decide) (by decide) ?_
            show Steps p.tables e below (T12.setTop (mkF m 131 #[.val (.int p1), .val (.int p2), .val (.int p3), .val (.int p4), .val (.ref x3), .val (.ref b6), .val .null, .unset, .unset, .unset, .unset, .unset, .unset] [(.int (1 : Int32))])) _
            refine XS.istore X12.here hx rfl (hb hby at_131) rfl (l' := #[.val (.int p1), .val (.int p2), .val (.int p3), .val (.int p4), .val (.ref x3), .val (.ref b6), .val .null, .val (.int (1 : Int32)), .unset, .unset, .unset, .unset, .unset]) rfl ?_
            show Steps p.tables e below (T12.setTop (mkF m 133 #[.val (.int p1), .val (.int p2), .val (.int p3), .val (.int p4), .val (.ref x3), .val (.ref b6), .val .null, .val (.int (1 : Int32)), .unset, .unset, .unset, .unset, .unset] [])) _
            refine XS.iload X12.here hx rfl (hb hby at_133) rfl ?_
            show Steps p.tables e below (T12.setTop (mkF m 135 #[.val (.int p1), .val (.int p2), .val (.int p3), .val (.int p4), .val (.ref x3), .val (.ref b6), .val .null, .val (.int (1 : Int32)), .unset, .unset, .unset, .unset, .unset] [(.int (1 : Int32))])) _
            refine XS.ifNo X12.here hx rfl (hb hby at_135) rfl ((if0 _ _).trans (feq (by decide : ¬ ((1 : Int32) = (0 : Int32)))).1) ?_
            show Steps p.tables e below (T12.setTop (mkF m 138 #[.val (.int p1), .val (.int p2), .val (.int p3), .val (.int p4), .val (.ref x3), .val (.ref b6), .val .null, .val (.int (1 : Int32)), .unset, .unset, .unset, .unset, .unset] [])) _
            refine XS.aconstNull X12.here hx rfl (hb hby at_138) ?_
            show Steps p.tables e below (T12.setTop (mkF m 139 #[.val (.int p1), .val (.int p2), .val (.int p3), .val (.int p4), .val (.ref x3), .val (.ref b6), .val .null, .val (.int (1 : Int32)), .unset, .unset, .unset, .unset, .unset] [.null])) _
            refine XS.goto X12.here hx rfl (pc0 := 139) (pc' := 161) rfl (hb hby at_139) (by decide) (by decide) ?_
            show Steps p.tables e below (T12.setTop (mkF m 161 #[.val (.int p1), .val (.int p2), .val (.int p3), .val (.int p4), .val (.ref x3), .val (.ref b6), .val .null, .val (.int (1 : Int32)), .unset, .unset, .unset, .unset, .unset] [.null])) _
            refine XS.astore X12.here hx rfl (hb hby at_161) rfl rfl (l' := #[.val (.int p1), .val (.int p2), .val (.int p3), .val (.int p4), .val (.ref x3), .val (.ref b6), .val .null, .val (.int (1 : Int32)), .val .null, .unset, .unset, .unset, .unset]) rfl ?_
            show Steps p.tables e below (T12.setTop (mkF m 163 #[.val (.int p1), .val (.int p2), .val (.int p3), .val (.int p4), .val (.ref x3), .val (.ref b6), .val .null, .val (.int (1 : Int32)), .val .null, .unset, .unset, .unset, .unset] [])) _
            refine st391 _ ?_
            show Steps p.tables e below (T391.setTop (mkF m 166 #[.val (.int p1), .val (.int p2), .val (.int p3), .val (.int p4), .val (.ref x3), .val (.ref b6), .val .null, .val (.int (1 : Int32)), .val .null, .unset, .unset, .unset, .unset] [(.ref b391)])) _
            refine XS.dup X391.here hx rfl (hb hby at_166) rfl rfl ?_
            show Steps p.tables e below (T391.setTop (mkF m 167 #[.val (.int p1), .val (.int p2), .val (.int p3), .val (.int p4), .val (.ref x3), .val (.ref b6), .val .null, .val (.int (1 : Int32)), .val .null, .unset, .unset, .unset, .unset] [(.ref b391), (.ref b391)])) _
            refine st392 _ ?_
            show Steps p.tables e below (T392.setTop (mkF m 169 #[.val (.int p1), .val (.int p2), .val (.int p3), .val (.int p4), .val (.ref x3), .val (.ref b6), .val .null, .val (.int (1 : Int32)), .val .null, .unset, .unset, .unset, .unset] [(.ref b392), (.ref b391), (.ref b391)])) _
            refine XS.aload X392.here hx rfl (hb hby at_169) rfl rfl ?_
            show Steps p.tables e below (T392.setTop (mkF m 171 #[.val (.int p1), .val (.int p2), .val (.int p3), .val (.int p4), .val (.ref x3), .val (.ref b6), .val .null, .val (.int (1 : Int32)), .val .null, .unset, .unset, .unset, .unset] [.null, (.ref b392), (.ref b391), (.ref b391)])) _
            refine st393.trans ?_
            show Steps p.tables e below (T393.setTop (mkF m 174 #[.val (.int p1), .val (.int p2), .val (.int p3), .val (.int p4), .val (.ref x3), .val (.ref b6), .val .null, .val (.int (1 : Int32)), .val .null, .unset, .unset, .unset, .unset] [(.ref b391)])) _
            refine XS.astore X393.here hx rfl (hb hby at_174) rfl rfl (l' := #[.val (.int p1), .val (.int p2), .val (.int p3), .val (.int p4), .val (.ref x3), .val (.ref b6), .val .null, .val (.int (1 : Int32)), .val .null, .val (.ref b391), .unset, .unset, .unset]) rfl ?_
            show Steps p.tables e below (T393.setTop (mkF m 176 #[.val (.int p1), .val (.int p2), .val (.int p3), .val (.int p4), .val (.ref x3), .val (.ref b6), .val .null, .val (.int (1 : Int32)), .val .null, .val (.ref b391), .unset, .unset, .unset] [])) _
            refine XS.aload X393.here hx rfl (hb hby at_176) rfl rfl ?_
            show Steps p.tables e below (T393.setTop (mkF m 178 #[.val (.int p1), .val (.int p2), .val (.int p3), .val (.int p4), .val (.ref x3), .val (.ref b6), .val .null, .val (.int (1 : Int32)), .val .null, .val (.ref b391), .unset, .unset, .unset] [(.ref b391)])) _
            refine st401 _ ?_
            show Steps p.tables e below (T401.setTop (mkF m 181 #[.val (.int p1), .val (.int p2), .val (.int p3), .val (.int p4), .val (.ref x3), .val (.ref b6), .val .null, .val (.int (1 : Int32)), .val .null, .val (.ref b391), .unset, .unset, .unset] [(.ref lf0), (.ref b391)])) _
            refine st402.trans ?_
            show Steps p.tables e below (T402.setTop (mkF m 184 #[.val (.int p1), .val (.int p2), .val (.int p3), .val (.int p4), .val (.ref x3), .val (.ref b6), .val .null, .val (.int (1 : Int32)), .val .null, .val (.ref b391), .unset, .unset, .unset] [.null])) _
            refine XS.astore X402.here hx rfl (hb hby at_184) rfl rfl (l' := #[.val (.int p1), .val (.int p2), .val (.int p3), .val (.int p4), .val (.ref x3), .val (.ref b6), .val .null, .val (.int (1 : Int32)), .val .null, .val (.ref b391), .val .null, .unset, .unset]) rfl ?_
            show Steps p.tables e below (T402.setTop (mkF m 186 #[.val (.int p1), .val (.int p2), .val (.int p3), .val (.int p4), .val (.ref x3), .val (.ref b6), .val .null, .val (.int (1 : Int32)), .val .null, .val (.ref b391), .val .null, .unset, .unset] [])) _
            refine XS.aload X402.here hx rfl (hb hby at_186) rfl rfl ?_
            show Steps p.tables e below (T402.setTop (mkF m 188 #[.val (.int p1), .val (.int p2), .val (.int p3), .val (.int p4), .val (.ref x3), .val (.ref b6), .val .null, .val (.int (1 : Int32)), .val .null, .val (.ref b391), .val .null, .unset, .unset] [(.ref b391)])) _
            refine st403 _ ?_
            show Steps p.tables e below (T403.setTop (mkF m 191 #[.val (.int p1), .val (.int p2), .val (.int p3), .val (.int p4), .val (.ref x3), .val (.ref b6), .val .null, .val (.int (1 : Int32)), .val .null, .val (.ref b391), .val .null, .unset, .unset] [(.ref lf1), (.ref b391)])) _
            refine st404.trans ?_
            show Steps p.tables e below (T404.setTop (mkF m 194 #[.val (.int p1), .val (.int p2), .val (.int p3), .val (.int p4), .val (.ref x3), .val (.ref b6), .val .null, .val (.int (1 : Int32)), .val .null, .val (.ref b391), .val .null, .unset, .unset] [.null])) _
            refine XS.astore X404.here hx rfl (hb hby at_194) rfl rfl (l' := #[.val (.int p1), .val (.int p2), .val (.int p3), .val (.int p4), .val (.ref x3), .val (.ref b6), .val .null, .val (.int (1 : Int32)), .val .null, .val (.ref b391), .val .null, .val .null, .unset]) rfl ?_
            show Steps p.tables e below (T404.setTop (mkF m 196 #[.val (.int p1), .val (.int p2), .val (.int p3), .val (.int p4), .val (.ref x3), .val (.ref b6), .val .null, .val (.int (1 : Int32)), .val .null, .val (.ref b391), .val .null, .val .null, .unset] [])) _
            refine XS.aload X404.here hx rfl (hb hby at_196) rfl rfl ?_
            show Steps p.tables e below (T404.setTop (mkF m 198 #[.val (.int p1), .val (.int p2), .val (.int p3), .val (.int p4), .val (.ref x3), .val (.ref b6), .val .null, .val (.int (1 : Int32)), .val .null, .val (.ref b391), .val .null, .val .null, .unset] [(.ref b391)])) _
            refine st405 _ ?_
            show Steps p.tables e below (T405.setTop (mkF m 201 #[.val (.int p1), .val (.int p2), .val (.int p3), .val (.int p4), .val (.ref x3), .val (.ref b6), .val .null, .val (.int (1 : Int32)), .val .null, .val (.ref b391), .val .null, .val .null, .unset] [(.ref lf2), (.ref b391)])) _
            refine st406.trans ?_
            show Steps p.tables e below (T406.setTop (mkF m 204 #[.val (.int p1), .val (.int p2), .val (.int p3), .val (.int p4), .val (.ref x3), .val (.ref b6), .val .null, .val (.int (1 : Int32)), .val .null, .val (.ref b391), .val .null, .val .null, .unset] [.null])) _
            refine XS.astore X406.here hx rfl (hb hby at_204) rfl rfl (l' := #[.val (.int p1), .val (.int p2), .val (.int p3), .val (.int p4), .val (.ref x3), .val (.ref b6), .val .null, .val (.int (1 : Int32)), .val .null, .val (.ref b391), .val .null, .val .null, .val .null]) rfl ?_
            show Steps p.tables e below (T406.setTop (mkF m 206 #[.val (.int p1), .val (.int p2), .val (.int p3), .val (.int p4), .val (.ref x3), .val (.ref b6), .val .null, .val (.int (1 : Int32)), .val .null, .val (.ref b391), .val .null, .val .null, .val .null] [])) _
            refine XS.iload X406.here hx rfl (hb hby at_206) rfl ?_
            show Steps p.tables e below (T406.setTop (mkF m 208 #[.val (.int p1), .val (.int p2), .val (.int p3), .val (.int p4), .val (.ref x3), .val (.ref b6), .val .null, .val (.int (1 : Int32)), .val .null, .val (.ref b391), .val .null, .val .null, .val .null] [(.int (1 : Int32))])) _
            refine XS.ifNo X406.here hx rfl (hb hby at_208) rfl ((if0 _ _).trans (feq (by decide : ¬ ((1 : Int32) = (0 : Int32)))).1) ?_
            show Steps p.tables e below (T406.setTop (mkF m 211 #[.val (.int p1), .val (.int p2), .val (.int p3), .val (.int p4), .val (.ref x3), .val (.ref b6), .val .null, .val (.int (1 : Int32)), .val .null, .val (.ref b391), .val .null, .val .null, .val .null] [])) _
            refine XS.aload X406.here hx rfl (hb hby at_211) rfl rfl ?_
            show Steps p.tables e below (T406.setTop (mkF m 213 #[.val (.int p1), .val (.int p2), .val (.int p3), .val (.int p4), .val (.ref x3), .val (.ref b6), .val .null, .val (.int (1 : Int32)), .val .null, .val (.ref b391), .val .null, .val .null, .val .null] [.null])) _
            refine XS.ifnonnullNo X406.here hx rfl (hb hby at_213) rfl ?_
            show Steps p.tables e below (T406.setTop (mkF m 216 #[.val (.int p1), .val (.int p2), .val (.int p3), .val (.int p4), .val (.ref x3), .val (.ref b6), .val .null, .val (.int (1 : Int32)), .val .null, .val (.ref b391), .val .null, .val .null, .val .null] [])) _
            refine XS.aload X406.here hx rfl (hb hby at_216) rfl rfl ?_
            show Steps p.tables e below (T406.setTop (mkF m 218 #[.val (.int p1), .val (.int p2), .val (.int p3), .val (.int p4), .val (.ref x3), .val (.ref b6), .val .null, .val (.int (1 : Int32)), .val .null, .val (.ref b391), .val .null, .val .null, .val .null] [.null])) _
            refine XS.ifnonnullNo X406.here hx rfl (hb hby at_218) rfl ?_
            show Steps p.tables e below (T406.setTop (mkF m 221 #[.val (.int p1), .val (.int p2), .val (.int p3), .val (.int p4), .val (.ref x3), .val (.ref b6), .val .null, .val (.int (1 : Int32)), .val .null, .val (.ref b391), .val .null, .val .null, .val .null] [])) _
            refine XS.aload X406.here hx rfl (hb hby at_221) rfl rfl ?_
            show Steps p.tables e below (T406.setTop (mkF m 223 #[.val (.int p1), .val (.int p2), .val (.int p3), .val (.int p4), .val (.ref x3), .val (.ref b6), .val .null, .val (.int (1 : Int32)), .val .null, .val (.ref b391), .val .null, .val .null, .val .null] [.null])) _
            refine XS.ifnonnullNo X406.here hx rfl (hb hby at_223) rfl ?_
            show Steps p.tables e below (T406.setTop (mkF m 226 #[.val (.int p1), .val (.int p2), .val (.int p3), .val (.int p4), .val (.ref x3), .val (.ref b6), .val .null, .val (.int (1 : Int32)), .val .null, .val (.ref b391), .val .null, .val .null, .val .null] [])) _
            refine XS.iconst X406.here hx rfl (hb hby at_226) ?_
            show Steps p.tables e below (T406.setTop (mkF m 227 #[.val (.int p1), .val (.int p2), .val (.int p3), .val (.int p4), .val (.ref x3), .val (.ref b6), .val .null, .val (.int (1 : Int32)), .val .null, .val (.ref b391), .val .null, .val .null, .val .null] [(.int (1 : Int32))])) _
            refine XS.goto X406.here hx rfl (pc0 := 227) (pc' := 231) rfl (hb hby at_227) (by decide) (by decide) ?_
            show Steps p.tables e below (T406.setTop (mkF m 231 #[.val (.int p1), .val (.int p2), .val (.int p3), .val (.int p4), .val (.ref x3), .val (.ref b6), .val .null, .val (.int (1 : Int32)), .val .null, .val (.ref b391), .val .null, .val .null, .val .null] [(.int (1 : Int32))])) _
            exact retN X406 hx (t := .boolean) Bd.returns (by simp) (hb hby at_231) hr
          · show Q_rm0 Z p1 p2 p3 p4 cs lf0 lf1 lf2 h0 n0 _ T406.heap _
            rw [H406]
            exact ⟨rfl, N406⟩
    · skip
      have pre408 : ∀ t, Steps p.tables e below (T3.setTop (mkF m 67 #[.val (.int p1), .val (.int p2), .val (.int p3), .val (.int p4), .val (.ref x3), .val .null, .unset, .unset, .unset, .unset, .unset, .unset, .unset] [(.int (p1 &&& (4 : Int32)))])) t → Steps p.tables e below (s₁.setTop (entryFrame m #[(.int p1), (.int p2), (.int p3), (.int p4)] maxLocals)) t := by
        intro t kt
        refine pre5 _ ?_
        show Steps p.tables e below (T3.setTop (mkF m 24 #[.val (.int p1), .val (.int p2), .val (.int p3), .val (.int p4), .val (.ref x3), .unset, .unset, .unset, .unset, .unset, .unset, .unset, .unset] [(.int (p1 &&& (2 : Int32)))])) _
        refine XS.ifNo X3.here hx rfl (hb hby at_24) rfl ((if0 _ _).trans (feq hc4).1) ?_
        show Steps p.tables e below (T3.setTop (mkF m 27 #[.val (.int p1), .val (.int p2), .val (.int p3), .val (.int p4), .val (.ref x3), .unset, .unset, .unset, .unset, .unset, .unset, .unset, .unset] [])) _
        refine XS.aconstNull X3.here hx rfl (hb hby at_27) ?_
        show Steps p.tables e below (T3.setTop (mkF m 28 #[.val (.int p1), .val (.int p2), .val (.int p3), .val (.int p4), .val (.ref x3), .unset, .unset, .unset, .unset, .unset, .unset, .unset, .unset] [.null])) _
        refine XS.goto X3.here hx rfl (pc0 := 28) (pc' := 62) rfl (hb hby at_28) (by decide) (by decide) ?_
        show Steps p.tables e below (T3.setTop (mkF m 62 #[.val (.int p1), .val (.int p2), .val (.int p3), .val (.int p4), .val (.ref x3), .unset, .unset, .unset, .unset, .unset, .unset, .unset, .unset] [.null])) _
        refine XS.astore X3.here hx rfl (hb hby at_62) rfl rfl (l' := #[.val (.int p1), .val (.int p2), .val (.int p3), .val (.int p4), .val (.ref x3), .val .null, .unset, .unset, .unset, .unset, .unset, .unset, .unset]) rfl ?_
        show Steps p.tables e below (T3.setTop (mkF m 64 #[.val (.int p1), .val (.int p2), .val (.int p3), .val (.int p4), .val (.ref x3), .val .null, .unset, .unset, .unset, .unset, .unset, .unset, .unset] [])) _
        refine XS.iloadN X3.here hx rfl (hb hby at_64) rfl ?_
        show Steps p.tables e below (T3.setTop (mkF m 65 #[.val (.int p1), .val (.int p2), .val (.int p3), .val (.int p4), .val (.ref x3), .val .null, .unset, .unset, .unset, .unset, .unset, .unset, .unset] [(.int p1)])) _
        refine XS.iconst X3.here hx rfl (hb hby at_65) ?_
        show Steps p.tables e below (T3.setTop (mkF m 66 #[.val (.int p1), .val (.int p2), .val (.int p3), .val (.int p4), .val (.ref x3), .val .null, .unset, .unset, .unset, .unset, .unset, .unset, .unset] [(.int (4 : Int32)), (.int p1)])) _
        refine XS.iand X3.here hx rfl (hb hby at_66) rfl ?_
        exact kt
      by_cases hc407 : (p1 &&& (4 : Int32)) = (0 : Int32)
      · skip
        obtain ⟨T409, h409, X409, e409, E409, A409, D409, -, st409⟩ := newO X3 hx hZ hown (tw hw 26 rfl) (tw hw 10 rfl) (tw hw 2 rfl) rfl (g := (mkF m 74 #[.val (.int p1), .val (.int p2), .val (.int p3), .val (.int p4), .val (.ref x3), .val .null, .unset, .unset, .unset, .unset, .unset, .unset, .unset] [])) rfl (hb hby at_74) (by decide) (by decide)
        obtain ⟨b409, g409⟩ : ∃ z, z = T3.heap.size := ⟨_, rfl⟩
        rw [← g409] at A409 D409 st409
        have lt409 : @LT.lt Nat _ b409 h409.size := A409.lt
        have K409 : Keep T3.heap h409 [] := (Keep.refl _ _).ext E409
        have sz2_K409 := K409.1
        have F409_value : Fld Z h409 b409 "java/lang/String" "value" "[B" .null := D409 (Or.inr (tw hw 23 rfl)) (ty := (.array .byte)) (by decide)
        have F409_coder : Fld Z h409 b409 "java/lang/String" "coder" "B" (.int (0 : Int32)) := D409 (Or.inr (tw hw 25 rfl)) (ty := .byte) (by decide)
        obtain ⟨T410, h410, k410, X410, e410, E410, A410, st410⟩ := newP X409 hx hZ (tw hw 27 rfl) e409 (g := (mkF m 79 #[.val (.int p1), .val (.int p2), .val (.int p3), .val (.int p4), .val (.ref x3), .val .null, .unset, .unset, .unset, .unset, .unset, .unset, .unset] [(.int (3 : Int32)), (.ref b409), (.ref b409)])) rfl (hb hby at_79) rfl (by decide) (cap := 3) (by decide) (by decide) (by decide) (by decide)
        obtain ⟨b410, g410⟩ : ∃ z, z = h409.size := ⟨_, rfl⟩
        rw [← g410] at A410 st410
        have V410 : Arv Z h410 b410 k410 .char (3 : Int32) [(.int (0 : Int32)), (.int (0 : Int32)), (.int (0 : Int32))] (.int (0 : Int32)) := (Arv.new A410 (by decide)).pad (pad_rep [] (.int (0 : Int32)) 3)
        have lt410 : @LT.lt Nat _ b410 h410.size := V410.lt
        have K410 : Keep h409 h410 [] := (Keep.refl _ _).ext E410
        have sz3_K410 := K410.1
        obtain ⟨cl411, Ar411, q411, S411, Nn411, H411, G411⟩ := V410
        obtain ⟨T412, h412, X412, e412, W412, st412⟩ := stC X410 hx hZ e410 Ar411 (j := (0 : Int32)) (inb_of S411 ⟨by decide, by decide⟩) (g := (mkF m 89 #[.val (.int p1), .val (.int p2), .val (.int p3), .val (.int p4), .val (.ref x3), .val .null, .unset, .unset, .unset, .unset, .unset, .unset, .unset] [(.int ((p4 &&& (255 : Int32)).toUInt32.toUInt16.toUInt32.toInt32)), (.int (0 : Int32)), (.ref b410), (.ref b410), (.ref b409), (.ref b409)])) rfl rfl (hb hby at_89)
        have V412 : Arv Z h412 b410 k410 .char (3 : Int32) [(.int (((p4 &&& (255 : Int32)).toUInt32.toUInt16.toUInt32.toInt32).toUInt32.toUInt16.toUInt32.toInt32)), (.int (0 : Int32)), (.int (0 : Int32))] (.int (0 : Int32)) := Arv.set Ar411 q411 S411 Nn411 H411 G411 (fits_nar_char _) W412 0 rfl (Nat.le_of_ble_eq_true rfl)
        have K412 := Keep.of_wr W412
        have N412 := Fr.snoc X412 N3 (by omega : @LE.le Nat _ n0 b410)
        have sz4_K412 := K412.1
        obtain ⟨cl413, Ar413, q413, S413, Nn413, H413, G413⟩ := V412
        obtain ⟨T414, h414, X414, e414, W414, st414⟩ := stC X412 hx hZ e412 Ar413 (j := (1 : Int32)) (inb_of S413 ⟨by decide, by decide⟩) (g := (mkF m 101 #[.val (.int p1), .val (.int p2), .val (.int p3), .val (.int p4), .val (.ref x3), .val .null, .unset, .unset, .unset, .unset, .unset, .unset, .unset] [(.int ((((p4.toUInt32 >>> ((8 : Int32) &&& 31).toUInt32).toInt32) &&& (255 : Int32)).toUInt32.toUInt16.toUInt32.toInt32)), (.int (1 : Int32)), (.ref b410), (.ref b410), (.ref b409), (.ref b409)])) rfl rfl (hb hby at_101)
        have V414 : Arv Z h414 b410 k410 .char (3 : Int32) [(.int (((p4 &&& (255 : Int32)).toUInt32.toUInt16.toUInt32.toInt32).toUInt32.toUInt16.toUInt32.toInt32)), (.int (((((p4.toUInt32 >>> ((8 : Int32) &&& 31).toUInt32).toInt32) &&& (255 : Int32)).toUInt32.toUInt16.toUInt32.toInt32).toUInt32.toUInt16.toUInt32.toInt32)), (.int (0 : Int32))] (.int (0 : Int32)) := Arv.set Ar413 q413 S413 Nn413 H413 G413 (fits_nar_char _) W414 1 rfl (Nat.le_of_ble_eq_true rfl)
        have K414 := Keep.of_wr W414
        have N414 := Fr.snoc X414 N412 (by omega : @LE.le Nat _ n0 b410)
        have sz5_K414 := K414.1
        obtain ⟨cl415, Ar415, q415, S415, Nn415, H415, G415⟩ := V414
        obtain ⟨T416, h416, X416, e416, W416, st416⟩ := stC X414 hx hZ e414 Ar415 (j := (2 : Int32)) (inb_of S415 ⟨by decide, by decide⟩) (g := (mkF m 113 #[.val (.int p1), .val (.int p2), .val (.int p3), .val (.int p4), .val (.ref x3), .val .null, .unset, .unset, .unset, .unset, .unset, .unset, .unset] [(.int ((((p4.toUInt32 >>> ((16 : Int32) &&& 31).toUInt32).toInt32) &&& (255 : Int32)).toUInt32.toUInt16.toUInt32.toInt32)), (.int (2 : Int32)), (.ref b410), (.ref b410), (.ref b409), (.ref b409)])) rfl rfl (hb hby at_113)
        have V416 : Arv Z h416 b410 k410 .char (3 : Int32) [(.int (((p4 &&& (255 : Int32)).toUInt32.toUInt16.toUInt32.toInt32).toUInt32.toUInt16.toUInt32.toInt32)), (.int (((((p4.toUInt32 >>> ((8 : Int32) &&& 31).toUInt32).toInt32) &&& (255 : Int32)).toUInt32.toUInt16.toUInt32.toInt32).toUInt32.toUInt16.toUInt32.toInt32)), (.int (((((p4.toUInt32 >>> ((16 : Int32) &&& 31).toUInt32).toInt32) &&& (255 : Int32)).toUInt32.toUInt16.toUInt32.toInt32).toUInt32.toUInt16.toUInt32.toInt32))] (.int (0 : Int32)) := Arv.set Ar415 q415 S415 Nn415 H415 G415 (fits_nar_char _) W416 2 rfl (Nat.le_of_ble_eq_true rfl)
        have K416 := Keep.of_wr W416
        have N416 := Fr.snoc X416 N414 (by omega : @LE.le Nat _ n0 b410)
        have sz6_K416 := K416.1
        have C418 := A409.keep K410
        have C419 := C418.keep K412
        have C420 := C419.keep K414
        have C421 := C420.keep K416
        have C422 := F409_value.keep K410 nin0
        have C423 := C422.keep K412 (ninS (by omega : @Ne Nat b409 b410) (nin0))
        have C424 := C423.keep K414 (ninS (by omega : @Ne Nat b409 b410) (nin0))
        have C425 := C424.keep K416 (ninS (by omega : @Ne Nat b409 b410) (nin0))
        have C426 := F409_coder.keep K410 nin0
        have C427 := C426.keep K412 (ninS (by omega : @Ne Nat b409 b410) (nin0))
        have C428 := C427.keep K414 (ninS (by omega : @Ne Nat b409 b410) (nin0))
        have C429 := C428.keep K416 (ninS (by omega : @Ne Nat b409 b410) (nin0))
        have O430 : Old Z n0 T3.heap := O0.keep K3 all0
        have O431 : Old Z n0 h409 := O430.keep K409 all0
        have O432 : Old Z n0 h410 := O431.keep K410 all0
        have O433 : Old Z n0 h412 := O432.keep K412 (allS (by omega) (all0))
        have O434 : Old Z n0 h414 := O433.keep K414 (allS (by omega) (all0))
        have O435 : Old Z n0 h416 := O434.keep K416 (allS (by omega) (all0))
        obtain ⟨_, _, ⟨T417, L417, k417, n417⟩, -, X417, ⟨Lc417, hQ417, l417, y417, z417⟩, st417⟩ := X416.specialBack hx (y := (⟨"java/lang/String", "<init>", "([C)V"⟩ : MethodName)) rfl hown (mvT hZ (tw hw 28 rfl)) (mvT hZ (tw hw 29 rfl)) (mvT hZ (tw hw 30 rfl)) (by decide) (StrChars.Road.backV (W := 1) hZ hws (kI := 4) (tw hw 10 rfl) (cs := ([(((p4 &&& (255 : Int32)).toUInt32.toUInt16.toUInt32.toInt32).toUInt32.toUInt16.toUInt32.toInt32), (((((p4.toUInt32 >>> ((8 : Int32) &&& 31).toUInt32).toInt32) &&& (255 : Int32)).toUInt32.toUInt16.toUInt32.toInt32).toUInt32.toUInt16.toUInt32.toInt32), (((((p4.toUInt32 >>> ((16 : Int32) &&& 31).toUInt32).toInt32) &&& (255 : Int32)).toUInt32.toUInt16.toUInt32.toInt32).toUInt32.toUInt16.toUInt32.toInt32)] : List Int32)) (bs := ([(((p4 &&& (255 : Int32)).toUInt32.toUInt16.toUInt32.toInt32).toUInt32.toUInt16.toUInt32.toInt32), (((((p4.toUInt32 >>> ((8 : Int32) &&& 31).toUInt32).toInt32) &&& (255 : Int32)).toUInt32.toUInt16.toUInt32.toInt32).toUInt32.toUInt16.toUInt32.toInt32), (((((p4.toUInt32 >>> ((16 : Int32) &&& 31).toUInt32).toInt32) &&& (255 : Int32)).toUInt32.toUInt16.toUInt32.toInt32).toUInt32.toUInt16.toUInt32.toInt32)] : List Int32).map (fun c => c.toInt8.toInt32)) (n := 3) (by omega : @LE.le Nat _ n0 b409) (by omega) C421 C425 C429 V416 (Sta.ext O435.2 S_CS) c_CS rfl rfl (by decide) (by decide) (by intro d hd; simp only [List.mem_cons, List.not_mem_nil, or_false] at hd; rcases hd with rfl | rfl | rfl <;> exact own_byte _) rfl (by decide) (by decide)) (g := (mkF m 114 #[.val (.int p1), .val (.int p2), .val (.int p3), .val (.int p4), .val (.ref x3), .val .null, .unset, .unset, .unset, .unset, .unset, .unset, .unset] [(.ref b410), (.ref b409), (.ref b409)])) rfl (by rw [hml]; rfl) (Steps.refl _) (a := b409) (argsL := [(.ref b410)]) (rest := [(.ref b409)]) (lenOf pd_5 rfl) rfl (by show 2 * 0 + _ ≤ _; exact Nat.le_of_eq rfl) (hb hby at_114) (fun _ _ => ⟨rfl, e416, (by decide : 4 + 1 ≤ _), (by decide : 12 + 3 ≤ _)⟩)
        dsimp only [Pt.U, Pt.locs, Pt.cells, Pt.slots] at X417 l417 y417 z417 st417 hQ417
        subst l417 y417 z417
        obtain ⟨rfl, N417q, K417, E417, C417, t417, kb417, ge417, gh417, tx417, Vf417, Av417⟩ := hQ417
        have lt417 : @LT.lt Nat _ t417 T417.heap.size := Av417.lt
        have sz7_K417 := K417.1
        have N417 := Fr.app N416 N417q
        have pre437 : ∀ t, Steps p.tables e below (T417.setTop (mkF m 123 #[.val (.int p1), .val (.int p2), .val (.int p3), .val (.int p4), .val (.ref x3), .val .null, .val (.ref b409), .unset, .unset, .unset, .unset, .unset, .unset] [(.int (p1 &&& (8 : Int32)))])) t → Steps p.tables e below (s₁.setTop (entryFrame m #[(.int p1), (.int p2), (.int p3), (.int p4)] maxLocals)) t := by
          intro t kt
          refine pre408 _ ?_
          show Steps p.tables e below (T3.setTop (mkF m 67 #[.val (.int p1), .val (.int p2), .val (.int p3), .val (.int p4), .val (.ref x3), .val .null, .unset, .unset, .unset, .unset, .unset, .unset, .unset] [(.int (p1 &&& (4 : Int32)))])) _
          refine XS.ifYes X3.here hx rfl (pc0 := 67) (pc' := 74) rfl (hb hby at_67) rfl ((if0 _ _).trans (teq hc407).1) (by decide) (by decide) ?_
          show Steps p.tables e below (T3.setTop (mkF m 74 #[.val (.int p1), .val (.int p2), .val (.int p3), .val (.int p4), .val (.ref x3), .val .null, .unset, .unset, .unset, .unset, .unset, .unset, .unset] [])) _
          refine st409 _ ?_
          show Steps p.tables e below (T409.setTop (mkF m 77 #[.val (.int p1), .val (.int p2), .val (.int p3), .val (.int p4), .val (.ref x3), .val .null, .unset, .unset, .unset, .unset, .unset, .unset, .unset] [(.ref b409)])) _
          refine XS.dup X409.here hx rfl (hb hby at_77) rfl rfl ?_
          show Steps p.tables e below (T409.setTop (mkF m 78 #[.val (.int p1), .val (.int p2), .val (.int p3), .val (.int p4), .val (.ref x3), .val .null, .unset, .unset, .unset, .unset, .unset, .unset, .unset] [(.ref b409), (.ref b409)])) _
          refine XS.iconst X409.here hx rfl (hb hby at_78) ?_
          show Steps p.tables e below (T409.setTop (mkF m 79 #[.val (.int p1), .val (.int p2), .val (.int p3), .val (.int p4), .val (.ref x3), .val .null, .unset, .unset, .unset, .unset, .unset, .unset, .unset] [(.int (3 : Int32)), (.ref b409), (.ref b409)])) _
          refine st410 _ ?_
          show Steps p.tables e below (T410.setTop (mkF m 81 #[.val (.int p1), .val (.int p2), .val (.int p3), .val (.int p4), .val (.ref x3), .val .null, .unset, .unset, .unset, .unset, .unset, .unset, .unset] [(.ref b410), (.ref b409), (.ref b409)])) _
          refine XS.dup X410.here hx rfl (hb hby at_81) rfl rfl ?_
          show Steps p.tables e below (T410.setTop (mkF m 82 #[.val (.int p1), .val (.int p2), .val (.int p3), .val (.int p4), .val (.ref x3), .val .null, .unset, .unset, .unset, .unset, .unset, .unset, .unset] [(.ref b410), (.ref b410), (.ref b409), (.ref b409)])) _
          refine XS.iconst X410.here hx rfl (hb hby at_82) ?_
          show Steps p.tables e below (T410.setTop (mkF m 83 #[.val (.int p1), .val (.int p2), .val (.int p3), .val (.int p4), .val (.ref x3), .val .null, .unset, .unset, .unset, .unset, .unset, .unset, .unset] [(.int (0 : Int32)), (.ref b410), (.ref b410), (.ref b409), (.ref b409)])) _
          refine XS.iloadN X410.here hx rfl (hb hby at_83) rfl ?_
          show Steps p.tables e below (T410.setTop (mkF m 84 #[.val (.int p1), .val (.int p2), .val (.int p3), .val (.int p4), .val (.ref x3), .val .null, .unset, .unset, .unset, .unset, .unset, .unset, .unset] [(.int p4), (.int (0 : Int32)), (.ref b410), (.ref b410), (.ref b409), (.ref b409)])) _
          refine XS.sipush X410.here hx rfl (hb hby at_84) ?_
          show Steps p.tables e below (T410.setTop (mkF m 87 #[.val (.int p1), .val (.int p2), .val (.int p3), .val (.int p4), .val (.ref x3), .val .null, .unset, .unset, .unset, .unset, .unset, .unset, .unset] [(.int (255 : Int32)), (.int p4), (.int (0 : Int32)), (.ref b410), (.ref b410), (.ref b409), (.ref b409)])) _
          refine XS.iand X410.here hx rfl (hb hby at_87) rfl ?_
          show Steps p.tables e below (T410.setTop (mkF m 88 #[.val (.int p1), .val (.int p2), .val (.int p3), .val (.int p4), .val (.ref x3), .val .null, .unset, .unset, .unset, .unset, .unset, .unset, .unset] [(.int (p4 &&& (255 : Int32))), (.int (0 : Int32)), (.ref b410), (.ref b410), (.ref b409), (.ref b409)])) _
          refine XS.i2c X410.here hx rfl (hb hby at_88) rfl ?_
          show Steps p.tables e below (T410.setTop (mkF m 89 #[.val (.int p1), .val (.int p2), .val (.int p3), .val (.int p4), .val (.ref x3), .val .null, .unset, .unset, .unset, .unset, .unset, .unset, .unset] [(.int ((p4 &&& (255 : Int32)).toUInt32.toUInt16.toUInt32.toInt32)), (.int (0 : Int32)), (.ref b410), (.ref b410), (.ref b409), (.ref b409)])) _
          refine st412 _ ?_
          show Steps p.tables e below (T412.setTop (mkF m 90 #[.val (.int p1), .val (.int p2), .val (.int p3), .val (.int p4), .val (.ref x3), .val .null, .unset, .unset, .unset, .unset, .unset, .unset, .unset] [(.ref b410), (.ref b409), (.ref b409)])) _
          refine XS.dup X412.here hx rfl (hb hby at_90) rfl rfl ?_
          show Steps p.tables e below (T412.setTop (mkF m 91 #[.val (.int p1), .val (.int p2), .val (.int p3), .val (.int p4), .val (.ref x3), .val .null, .unset, .unset, .unset, .unset, .unset, .unset, .unset] [(.ref b410), (.ref b410), (.ref b409), (.ref b409)])) _
          refine XS.iconst X412.here hx rfl (hb hby at_91) ?_
          show Steps p.tables e below (T412.setTop (mkF m 92 #[.val (.int p1), .val (.int p2), .val (.int p3), .val (.int p4), .val (.ref x3), .val .null, .unset, .unset, .unset, .unset, .unset, .unset, .unset] [(.int (1 : Int32)), (.ref b410), (.ref b410), (.ref b409), (.ref b409)])) _
          refine XS.iloadN X412.here hx rfl (hb hby at_92) rfl ?_
          show Steps p.tables e below (T412.setTop (mkF m 93 #[.val (.int p1), .val (.int p2), .val (.int p3), .val (.int p4), .val (.ref x3), .val .null, .unset, .unset, .unset, .unset, .unset, .unset, .unset] [(.int p4), (.int (1 : Int32)), (.ref b410), (.ref b410), (.ref b409), (.ref b409)])) _
          refine XS.bipush X412.here hx rfl (hb hby at_93) ?_
          show Steps p.tables e below (T412.setTop (mkF m 95 #[.val (.int p1), .val (.int p2), .val (.int p3), .val (.int p4), .val (.ref x3), .val .null, .unset, .unset, .unset, .unset, .unset, .unset, .unset] [(.int (8 : Int32)), (.int p4), (.int (1 : Int32)), (.ref b410), (.ref b410), (.ref b409), (.ref b409)])) _
          refine XS.iushr X412.here hx rfl (hb hby at_95) rfl ?_
          show Steps p.tables e below (T412.setTop (mkF m 96 #[.val (.int p1), .val (.int p2), .val (.int p3), .val (.int p4), .val (.ref x3), .val .null, .unset, .unset, .unset, .unset, .unset, .unset, .unset] [(.int ((p4.toUInt32 >>> ((8 : Int32) &&& 31).toUInt32).toInt32)), (.int (1 : Int32)), (.ref b410), (.ref b410), (.ref b409), (.ref b409)])) _
          refine XS.sipush X412.here hx rfl (hb hby at_96) ?_
          show Steps p.tables e below (T412.setTop (mkF m 99 #[.val (.int p1), .val (.int p2), .val (.int p3), .val (.int p4), .val (.ref x3), .val .null, .unset, .unset, .unset, .unset, .unset, .unset, .unset] [(.int (255 : Int32)), (.int ((p4.toUInt32 >>> ((8 : Int32) &&& 31).toUInt32).toInt32)), (.int (1 : Int32)), (.ref b410), (.ref b410), (.ref b409), (.ref b409)])) _
          refine XS.iand X412.here hx rfl (hb hby at_99) rfl ?_
          show Steps p.tables e below (T412.setTop (mkF m 100 #[.val (.int p1), .val (.int p2), .val (.int p3), .val (.int p4), .val (.ref x3), .val .null, .unset, .unset, .unset, .unset, .unset, .unset, .unset] [(.int (((p4.toUInt32 >>> ((8 : Int32) &&& 31).toUInt32).toInt32) &&& (255 : Int32))), (.int (1 : Int32)), (.ref b410), (.ref b410), (.ref b409), (.ref b409)])) _
          refine XS.i2c X412.here hx rfl (hb hby at_100) rfl ?_
          show Steps p.tables e below (T412.setTop (mkF m 101 #[.val (.int p1), .val (.int p2), .val (.int p3), .val (.int p4), .val (.ref x3), .val .null, .unset, .unset, .unset, .unset, .unset, .unset, .unset] [(.int ((((p4.toUInt32 >>> ((8 : Int32) &&& 31).toUInt32).toInt32) &&& (255 : Int32)).toUInt32.toUInt16.toUInt32.toInt32)), (.int (1 : Int32)), (.ref b410), (.ref b410), (.ref b409), (.ref b409)])) _
          refine st414 _ ?_
          show Steps p.tables e below (T414.setTop (mkF m 102 #[.val (.int p1), .val (.int p2), .val (.int p3), .val (.int p4), .val (.ref x3), .val .null, .unset, .unset, .unset, .unset, .unset, .unset, .unset] [(.ref b410), (.ref b409), (.ref b409)])) _
          refine XS.dup X414.here hx rfl (hb hby at_102) rfl rfl ?_
          show Steps p.tables e below (T414.setTop (mkF m 103 #[.val (.int p1), .val (.int p2), .val (.int p3), .val (.int p4), .val (.ref x3), .val .null, .unset, .unset, .unset, .unset, .unset, .unset, .unset] [(.ref b410), (.ref b410), (.ref b409), (.ref b409)])) _
          refine XS.iconst X414.here hx rfl (hb hby at_103) ?_
          show Steps p.tables e below (T414.setTop (mkF m 104 #[.val (.int p1), .val (.int p2), .val (.int p3), .val (.int p4), .val (.ref x3), .val .null, .unset, .unset, .unset, .unset, .unset, .unset, .unset] [(.int (2 : Int32)), (.ref b410), (.ref b410), (.ref b409), (.ref b409)])) _
          refine XS.iloadN X414.here hx rfl (hb hby at_104) rfl ?_
          show Steps p.tables e below (T414.setTop (mkF m 105 #[.val (.int p1), .val (.int p2), .val (.int p3), .val (.int p4), .val (.ref x3), .val .null, .unset, .unset, .unset, .unset, .unset, .unset, .unset] [(.int p4), (.int (2 : Int32)), (.ref b410), (.ref b410), (.ref b409), (.ref b409)])) _
          refine XS.bipush X414.here hx rfl (hb hby at_105) ?_
          show Steps p.tables e below (T414.setTop (mkF m 107 #[.val (.int p1), .val (.int p2), .val (.int p3), .val (.int p4), .val (.ref x3), .val .null, .unset, .unset, .unset, .unset, .unset, .unset, .unset] [(.int (16 : Int32)), (.int p4), (.int (2 : Int32)), (.ref b410), (.ref b410), (.ref b409), (.ref b409)])) _
          refine XS.iushr X414.here hx rfl (hb hby at_107) rfl ?_
          show Steps p.tables e below (T414.setTop (mkF m 108 #[.val (.int p1), .val (.int p2), .val (.int p3), .val (.int p4), .val (.ref x3), .val .null, .unset, .unset, .unset, .unset, .unset, .unset, .unset] [(.int ((p4.toUInt32 >>> ((16 : Int32) &&& 31).toUInt32).toInt32)), (.int (2 : Int32)), (.ref b410), (.ref b410), (.ref b409), (.ref b409)])) _
          refine XS.sipush X414.here hx rfl (hb hby at_108) ?_
          show Steps p.tables e below (T414.setTop (mkF m 111 #[.val (.int p1), .val (.int p2), .val (.int p3), .val (.int p4), .val (.ref x3), .val .null, .unset, .unset, .unset, .unset, .unset, .unset, .unset] [(.int (255 : Int32)), (.int ((p4.toUInt32 >>> ((16 : Int32) &&& 31).toUInt32).toInt32)), (.int (2 : Int32)), (.ref b410), (.ref b410), (.ref b409), (.ref b409)])) _
          refine XS.iand X414.here hx rfl (hb hby at_111) rfl ?_
          show Steps p.tables e below (T414.setTop (mkF m 112 #[.val (.int p1), .val (.int p2), .val (.int p3), .val (.int p4), .val (.ref x3), .val .null, .unset, .unset, .unset, .unset, .unset, .unset, .unset] [(.int (((p4.toUInt32 >>> ((16 : Int32) &&& 31).toUInt32).toInt32) &&& (255 : Int32))), (.int (2 : Int32)), (.ref b410), (.ref b410), (.ref b409), (.ref b409)])) _
          refine XS.i2c X414.here hx rfl (hb hby at_112) rfl ?_
          show Steps p.tables e below (T414.setTop (mkF m 113 #[.val (.int p1), .val (.int p2), .val (.int p3), .val (.int p4), .val (.ref x3), .val .null, .unset, .unset, .unset, .unset, .unset, .unset, .unset] [(.int ((((p4.toUInt32 >>> ((16 : Int32) &&& 31).toUInt32).toInt32) &&& (255 : Int32)).toUInt32.toUInt16.toUInt32.toInt32)), (.int (2 : Int32)), (.ref b410), (.ref b410), (.ref b409), (.ref b409)])) _
          refine st416 _ ?_
          show Steps p.tables e below (T416.setTop (mkF m 114 #[.val (.int p1), .val (.int p2), .val (.int p3), .val (.int p4), .val (.ref x3), .val .null, .unset, .unset, .unset, .unset, .unset, .unset, .unset] [(.ref b410), (.ref b409), (.ref b409)])) _
          refine st417.trans ?_
          show Steps p.tables e below (T417.setTop (mkF m 117 #[.val (.int p1), .val (.int p2), .val (.int p3), .val (.int p4), .val (.ref x3), .val .null, .unset, .unset, .unset, .unset, .unset, .unset, .unset] [(.ref b409)])) _
          refine XS.astore X417.here hx rfl (hb hby at_117) rfl rfl (l' := #[.val (.int p1), .val (.int p2), .val (.int p3), .val (.int p4), .val (.ref x3), .val .null, .val (.ref b409), .unset, .unset, .unset, .unset, .unset, .unset]) rfl ?_
          show Steps p.tables e below (T417.setTop (mkF m 119 #[.val (.int p1), .val (.int p2), .val (.int p3), .val (.int p4), .val (.ref x3), .val .null, .val (.ref b409), .unset, .unset, .unset, .unset, .unset, .unset] [])) _
          refine XS.iloadN X417.here hx rfl (hb hby at_119) rfl ?_
          show Steps p.tables e below (T417.setTop (mkF m 120 #[.val (.int p1), .val (.int p2), .val (.int p3), .val (.int p4), .val (.ref x3), .val .null, .val (.ref b409), .unset, .unset, .unset, .unset, .unset, .unset] [(.int p1)])) _
          refine XS.bipush X417.here hx rfl (hb hby at_120) ?_
          show Steps p.tables e below (T417.setTop (mkF m 122 #[.val (.int p1), .val (.int p2), .val (.int p3), .val (.int p4), .val (.ref x3), .val .null, .val (.ref b409), .unset, .unset, .unset, .unset, .unset, .unset] [(.int (8 : Int32)), (.int p1)])) _
          refine XS.iand X417.here hx rfl (hb hby at_122) rfl ?_
          exact kt
        by_cases hc436 : (p1 &&& (8 : Int32)) = (0 : Int32)
        · skip
          obtain ⟨T438, h438, k438, X438, e438, E438, A438, O438, st438⟩ := newR X417 hx hZ hown (tw hw 26 rfl) (tw hw 44 rfl) rfl (g := (mkF m 143 #[.val (.int p1), .val (.int p2), .val (.int p3), .val (.int p4), .val (.ref x3), .val .null, .val (.ref b409), .val (.int (0 : Int32)), .unset, .unset, .unset, .unset, .unset] [(.int (3 : Int32))])) rfl (hb hby at_143) rfl (by decide) (cap := 3) (by decide) (by decide) (by decide) (by decide)
          obtain ⟨b438, g438⟩ : ∃ z, z = T417.heap.size := ⟨_, rfl⟩
          rw [← g438] at A438 st438
          have V438 : Arv Z h438 b438 k438 (.object "java/lang/String") (3 : Int32) [.null, .null, .null] .null := (Arv.new A438 (by decide)).pad (pad_rep [] .null 3)
          have lt438 : @LT.lt Nat _ b438 h438.size := V438.lt
          have K438 : Keep T417.heap h438 [] := (Keep.refl _ _).ext E438
          have sz8_K438 := K438.1
          obtain ⟨cl439, Ar439, q439, S439, Nn439, H439, G439⟩ := V438
          have C440 := E3.keep K409
          have C441 := C440.keep K410
          have C442 := C441.keep K412
          have C443 := C442.keep K414
          have C444 := C443.keep K416
          have C445 := C444.keep K417
          have C446 := C445.keep K438
          obtain ⟨T447, h447, X447, e447, W447, st447⟩ := stR X438 hx hZ e438 Ar439 (j := (0 : Int32)) (inb_of S439 ⟨by decide, by decide⟩) rfl (Sto.ofV Ar439 q439 O438 (Ins.self C446)) (g := (mkF m 150 #[.val (.int p1), .val (.int p2), .val (.int p3), .val (.int p4), .val (.ref x3), .val .null, .val (.ref b409), .val (.int (0 : Int32)), .unset, .unset, .unset, .unset, .unset] [(.ref x3), (.int (0 : Int32)), (.ref b438), (.ref b438)])) rfl rfl (hb hby at_150)
          have V447 : Arv Z h447 b438 k438 (.object "java/lang/String") (3 : Int32) [(.ref x3), .null, .null] .null := Arv.set Ar439 q439 S439 Nn439 H439 G439 rfl W447 0 rfl (Nat.le_of_ble_eq_true rfl)
          have K447 := Keep.of_wr W447
          have N447 := Fr.snoc X447 N417 (by omega : @LE.le Nat _ n0 b438)
          have sz9_K447 := K447.1
          obtain ⟨cl448, Ar448, q448, S448, Nn448, H448, G448⟩ := V447
          obtain ⟨T449, h449, X449, e449, W449, st449⟩ := stR X447 hx hZ e447 Ar448 (j := (1 : Int32)) (inb_of S448 ⟨by decide, by decide⟩) rfl (Or.inl rfl) (g := (mkF m 155 #[.val (.int p1), .val (.int p2), .val (.int p3), .val (.int p4), .val (.ref x3), .val .null, .val (.ref b409), .val (.int (0 : Int32)), .unset, .unset, .unset, .unset, .unset] [.null, (.int (1 : Int32)), (.ref b438), (.ref b438)])) rfl rfl (hb hby at_155)
          have V449 : Arv Z h449 b438 k438 (.object "java/lang/String") (3 : Int32) [(.ref x3), .null, .null] .null := Arv.set Ar448 q448 S448 Nn448 H448 G448 rfl W449 1 rfl (Nat.le_of_ble_eq_true rfl)
          have K449 := Keep.of_wr W449
          have N449 := Fr.snoc X449 N447 (by omega : @LE.le Nat _ n0 b438)
          have sz10_K449 := K449.1
          obtain ⟨cl450, Ar450, q450, S450, Nn450, H450, G450⟩ := V449
          have C451 := E417.keep K438
          have C452 := C451.keep K447
          have C453 := C452.keep K449
          obtain ⟨T454, h454, X454, e454, W454, st454⟩ := stR X449 hx hZ e449 Ar450 (j := (2 : Int32)) (inb_of S450 ⟨by decide, by decide⟩) rfl (Sto.ofV Ar450 q450 O438 (Ins.self C453)) (g := (mkF m 160 #[.val (.int p1), .val (.int p2), .val (.int p3), .val (.int p4), .val (.ref x3), .val .null, .val (.ref b409), .val (.int (0 : Int32)), .unset, .unset, .unset, .unset, .unset] [(.ref b409), (.int (2 : Int32)), (.ref b438), (.ref b438)])) rfl rfl (hb hby at_160)
          have V454 : Arv Z h454 b438 k438 (.object "java/lang/String") (3 : Int32) [(.ref x3), .null, (.ref b409)] .null := Arv.set Ar450 q450 S450 Nn450 H450 G450 rfl W454 2 rfl (Nat.le_of_ble_eq_true rfl)
          have K454 := Keep.of_wr W454
          have N454 := Fr.snoc X454 N449 (by omega : @LE.le Nat _ n0 b438)
          have sz11_K454 := K454.1
          obtain ⟨T455, h455, X455, e455, E455, A455, D455, -, st455⟩ := newO X454 hx hZ hown (tw hw 45 rfl) (tw hw 46 rfl) (tw hw 47 rfl) e454 (g := (mkF m 163 #[.val (.int p1), .val (.int p2), .val (.int p3), .val (.int p4), .val (.ref x3), .val .null, .val (.ref b409), .val (.int (0 : Int32)), .val (.ref b438), .unset, .unset, .unset, .unset] [])) rfl (hb hby at_163) (by decide) (by decide)
          obtain ⟨b455, g455⟩ : ∃ z, z = h454.size := ⟨_, rfl⟩
          rw [← g455] at A455 D455 st455
          have lt455 : @LT.lt Nat _ b455 h455.size := A455.lt
          have K455 : Keep h454 h455 [] := (Keep.refl _ _).ext E455
          have sz12_K455 := K455.1
          have F455_loc : Fld Z h455 b455 "com/example/links_to_sitemap/linkstositemap/SitemapFileWriter$Entry" "loc" "Ljava/lang/String;" .null := D455 (Or.inr (tw hw 56 rfl)) (ty := (.object "java/lang/String")) (by decide)
          have F455_fields : Fld Z h455 b455 "com/example/links_to_sitemap/linkstositemap/SitemapFileWriter$Entry" "fields" "[Ljava/lang/String;" .null := D455 (Or.inr (tw hw 58 rfl)) (ty := (.array (.object "java/lang/String"))) (by decide)
          obtain ⟨b456, T456, h456, k456, X456, e456, E456, hS456, hk456, hZ456, hown456, st456⟩ := ldcS (s := s) (vm0 := s.vm) X455 hx hZ hown (tw hw 48 rfl) wStr e455 hS0 (by omega) (g := (mkF m 167 #[.val (.int p1), .val (.int p2), .val (.int p3), .val (.int p4), .val (.ref x3), .val .null, .val (.ref b409), .val (.int (0 : Int32)), .val (.ref b438), .unset, .unset, .unset, .unset] [(.ref b455), (.ref b455)])) rfl (hb hby at_167) (n := 80) (by decide) (by decide) (by decide) (by decide)
          have K456 : Keep h455 h456 [] := (Keep.refl _ _).ext E456
          have sz13_K456 := K456.1
          have C458 := A455.keep K456
          have C459 := F455_loc.keep K456 nin0
          have C460 := F455_fields.keep K456 nin0
          have O461 : Old Z n0 T417.heap := O435.keep K417 (allS (by omega) (all0))
          have O462 : Old Z n0 h438 := O461.keep K438 all0
          have O463 : Old Z n0 h447 := O462.keep K447 (allS (by omega) (all0))
          have O464 : Old Z n0 h449 := O463.keep K449 (allS (by omega) (all0))
          have O465 : Old Z n0 h454 := O464.keep K454 (allS (by omega) (all0))
          have O466 : Old Z n0 h455 := O465.keep K455 all0
          have O467 : Old Z n0 h456 := O466.keep K456 all0
          obtain ⟨_, _, ⟨T457, L457, k457, n457⟩, -, X457, ⟨Lc457, hQ457, l457, y457, z457⟩, st457⟩ := X456.specialBack hx (y := (⟨"com/example/links_to_sitemap/linkstositemap/SitemapFileWriter$Entry", "<init>", "(Ljava/lang/String;[Ljava/lang/String;)V"⟩ : MethodName)) rfl hown456 (mvT hZ456 (tw hw 51 rfl)) (mvT hZ456 (tw hw 52 rfl)) (mvT hZ456 (tw hw 53 rfl)) (by decide) (backOf (W := 1) (rmEntryA l Z a0 hw [] b455 b456 b438  h456 n0 O467 (by omega : @LE.le Nat _ n0 b455) C458 C459 C460) hZ456 (tw hw 53 rfl) (tw hw 47 rfl) (by decide) (by decide)) (g := (mkF m 171 #[.val (.int p1), .val (.int p2), .val (.int p3), .val (.int p4), .val (.ref x3), .val .null, .val (.ref b409), .val (.int (0 : Int32)), .val (.ref b438), .unset, .unset, .unset, .unset] [(.ref b438), (.ref b456), (.ref b455), (.ref b455)])) rfl (by rw [hml]; rfl) (Steps.refl _) (a := b455) (argsL := [(.ref b456), (.ref b438)]) (rest := [(.ref b455)]) (lenOf pd_10 rfl) rfl (by show 2 * 0 + _ ≤ _; exact Nat.le_of_eq rfl) (hb hby at_171) (fun _ _ => ⟨rfl, e456, (by decide : 9 + 0 ≤ _), (by decide : 104 + 0 ≤ _)⟩)
          dsimp only [Pt.U, Pt.locs, Pt.cells, Pt.slots] at X457 l457 y457 z457 st457 hQ457
          subst l457 y457 z457
          obtain ⟨rfl, N457q, K457, E457, F457⟩ := hQ457
          have sz14_K457 := K457.1
          have N457 := Fr.app N454 N457q
          have O468 : Old Z n0 T457.heap := O467.keep K457 (allS (by omega) (all0))
          obtain ⟨T469, X469, e469, st469⟩ := getS2 X457 hx hZ456 hown456 (host := "") (Or.inl (tw hw 59 rfl)) Via.refl rfl (Sta.ext O468.2 S_0) (g := (mkF m 178 #[.val (.int p1), .val (.int p2), .val (.int p3), .val (.int p4), .val (.ref x3), .val .null, .val (.ref b409), .val (.int (0 : Int32)), .val (.ref b438), .val (.ref b455), .unset, .unset, .unset] [(.ref b455)])) rfl (hb hby at_178)
          have C471 := V454.keep K455 nin0
          have C472 := C471.keep K456 nin0
          have C473 := C472.keep K457 (ninS (by omega : @Ne Nat b438 b455) (nin0))
          have C474 := E_0.keep K3
          have C475 := C474.keep K409
          have C476 := C475.keep K410
          have C477 := C476.keep K412
          have C478 := C477.keep K414
          have C479 := C478.keep K416
          have C480 := C479.keep K417
          have C481 := C480.keep K438
          have C482 := C481.keep K447
          have C483 := C482.keep K449
          have C484 := C483.keep K454
          have C485 := C484.keep K455
          have C486 := C485.keep K456
          have C487 := C486.keep K457
          have C488 := F_0.keep K3 nin0
          have C489 := C488.keep K409 nin0
          have C490 := C489.keep K410 nin0
          have C491 := C490.keep K412 (ninS (by omega : @Ne Nat lf0 b410) (nin0))
          have C492 := C491.keep K414 (ninS (by omega : @Ne Nat lf0 b410) (nin0))
          have C493 := C492.keep K416 (ninS (by omega : @Ne Nat lf0 b410) (nin0))
          have C494 := C493.keep K417 (ninS (by omega : @Ne Nat lf0 b409) (nin0))
          have C495 := C494.keep K438 nin0
          have C496 := C495.keep K447 (ninS (by omega : @Ne Nat lf0 b438) (nin0))
          have C497 := C496.keep K449 (ninS (by omega : @Ne Nat lf0 b438) (nin0))
          have C498 := C497.keep K454 (ninS (by omega : @Ne Nat lf0 b438) (nin0))
          have C499 := C498.keep K455 nin0
          have C500 := C499.keep K456 nin0
          have C501 := C500.keep K457 (ninS (by omega : @Ne Nat lf0 b455) (nin0))
          obtain ⟨cq470, kq470, q470a, q470b, q470c⟩ := isOf hZ456 e469 E457
          obtain ⟨_, _, ⟨T470, L470, k470, n470⟩, -, X470, ⟨Lc470, hQ470, l470, y470, z470⟩, st470⟩ := X469.virtualBack hx (y := (⟨"com/example/links_to_sitemap/linkstositemap/SitemapFileWriter$Entry", "field", "(Lcom/example/links_to_sitemap/linkstositemap/LinkField;)Ljava/lang/String;"⟩ : MethodName)) (z := (⟨"com/example/links_to_sitemap/linkstositemap/SitemapFileWriter$Entry", "field", "(Lcom/example/links_to_sitemap/linkstositemap/LinkField;)Ljava/lang/String;"⟩ : MethodName)) hown456 (mvT hZ456 (tw hw 62 rfl)) (mvT hZ456 (tw hw 63 rfl)) (notFace_of_selects (args := #[]) (mvT hZ456 (tw hw 65 rfl))) (mvT hZ456 (tw hw 65 rfl)) (mvT hZ456 (tw hw 64 rfl)) (by decide) (backOf (W := 0) (rmFieldA l Z a0 hw [] b455 lf0 b438 k438 [(.ref x3), .null, (.ref b409)] (.ref x3) (0 : Int32) T457.heap n0 O468 F457 C473 C487 C501 (by decide) (by decide) rfl rfl) hZ456 (tw hw 66 rfl) (tw hw 47 rfl) (by decide) (by decide)) q470a q470c (g := (mkF m 181 #[.val (.int p1), .val (.int p2), .val (.int p3), .val (.int p4), .val (.ref x3), .val .null, .val (.ref b409), .val (.int (0 : Int32)), .val (.ref b438), .val (.ref b455), .unset, .unset, .unset] [(.ref lf0), (.ref b455)])) rfl (by rw [hml]; rfl) (Steps.refl _) (argsL := [(.ref lf0)]) (rest := []) (lenOf pd_11 rfl) rfl (by show 2 * 0 + _ ≤ _; exact Nat.le_of_eq rfl) (hb hby at_181) (fun _ _ => ⟨rfl, e469, (by decide : 9 + 0 ≤ _), (by decide : 104 + 0 ≤ _)⟩)
          dsimp only [Pt.U, Pt.locs, Pt.cells, Pt.slots] at X470 l470 y470 z470 st470 hQ470
          subst l470 y470 z470
          obtain ⟨rfl, N470q, H470⟩ := hQ470
          have N470 := Fr.app N457 N470q
          obtain ⟨T502, X502, e502, st502⟩ := getS2 X470 hx hZ456 hown456 (host := "") (Or.inl (tw hw 76 rfl)) Via.refl H470 (Sta.ext O468.2 S_1) (g := (mkF m 188 #[.val (.int p1), .val (.int p2), .val (.int p3), .val (.int p4), .val (.ref x3), .val .null, .val (.ref b409), .val (.int (0 : Int32)), .val (.ref b438), .val (.ref b455), .val (.ref x3), .unset, .unset] [(.ref b455)])) rfl (hb hby at_188)
          have C504 := E_1.keep K3
          have C505 := C504.keep K409
          have C506 := C505.keep K410
          have C507 := C506.keep K412
          have C508 := C507.keep K414
          have C509 := C508.keep K416
          have C510 := C509.keep K417
          have C511 := C510.keep K438
          have C512 := C511.keep K447
          have C513 := C512.keep K449
          have C514 := C513.keep K454
          have C515 := C514.keep K455
          have C516 := C515.keep K456
          have C517 := C516.keep K457
          have C518 := F_1.keep K3 nin0
          have C519 := C518.keep K409 nin0
          have C520 := C519.keep K410 nin0
          have C521 := C520.keep K412 (ninS (by omega : @Ne Nat lf1 b410) (nin0))
          have C522 := C521.keep K414 (ninS (by omega : @Ne Nat lf1 b410) (nin0))
          have C523 := C522.keep K416 (ninS (by omega : @Ne Nat lf1 b410) (nin0))
          have C524 := C523.keep K417 (ninS (by omega : @Ne Nat lf1 b409) (nin0))
          have C525 := C524.keep K438 nin0
          have C526 := C525.keep K447 (ninS (by omega : @Ne Nat lf1 b438) (nin0))
          have C527 := C526.keep K449 (ninS (by omega : @Ne Nat lf1 b438) (nin0))
          have C528 := C527.keep K454 (ninS (by omega : @Ne Nat lf1 b438) (nin0))
          have C529 := C528.keep K455 nin0
          have C530 := C529.keep K456 nin0
          have C531 := C530.keep K457 (ninS (by omega : @Ne Nat lf1 b455) (nin0))
          obtain ⟨cq503, kq503, q503a, q503b, q503c⟩ := isOf hZ456 e502 E457
          obtain ⟨_, _, ⟨T503, L503, k503, n503⟩, -, X503, ⟨Lc503, hQ503, l503, y503, z503⟩, st503⟩ := X502.virtualBack hx (y := (⟨"com/example/links_to_sitemap/linkstositemap/SitemapFileWriter$Entry", "field", "(Lcom/example/links_to_sitemap/linkstositemap/LinkField;)Ljava/lang/String;"⟩ : MethodName)) (z := (⟨"com/example/links_to_sitemap/linkstositemap/SitemapFileWriter$Entry", "field", "(Lcom/example/links_to_sitemap/linkstositemap/LinkField;)Ljava/lang/String;"⟩ : MethodName)) hown456 (mvT hZ456 (tw hw 62 rfl)) (mvT hZ456 (tw hw 63 rfl)) (notFace_of_selects (args := #[]) (mvT hZ456 (tw hw 65 rfl))) (mvT hZ456 (tw hw 65 rfl)) (mvT hZ456 (tw hw 64 rfl)) (by decide) (backOf (W := 0) (rmFieldA l Z a0 hw [] b455 lf1 b438 k438 [(.ref x3), .null, (.ref b409)] .null (1 : Int32) T457.heap n0 O468 F457 C473 C517 C531 (by decide) (by decide) rfl rfl) hZ456 (tw hw 66 rfl) (tw hw 47 rfl) (by decide) (by decide)) q503a q503c (g := (mkF m 191 #[.val (.int p1), .val (.int p2), .val (.int p3), .val (.int p4), .val (.ref x3), .val .null, .val (.ref b409), .val (.int (0 : Int32)), .val (.ref b438), .val (.ref b455), .val (.ref x3), .unset, .unset] [(.ref lf1), (.ref b455)])) rfl (by rw [hml]; rfl) (Steps.refl _) (argsL := [(.ref lf1)]) (rest := []) (lenOf pd_11 rfl) rfl (by show 2 * 0 + _ ≤ _; exact Nat.le_of_eq rfl) (hb hby at_191) (fun _ _ => ⟨rfl, e502, (by decide : 9 + 0 ≤ _), (by decide : 104 + 0 ≤ _)⟩)
          dsimp only [Pt.U, Pt.locs, Pt.cells, Pt.slots] at X503 l503 y503 z503 st503 hQ503
          subst l503 y503 z503
          obtain ⟨rfl, N503q, H503⟩ := hQ503
          have N503 := Fr.app N470 N503q
          obtain ⟨T532, X532, e532, st532⟩ := getS2 X503 hx hZ456 hown456 (host := "") (Or.inl (tw hw 78 rfl)) Via.refl H503 (Sta.ext O468.2 S_2) (g := (mkF m 198 #[.val (.int p1), .val (.int p2), .val (.int p3), .val (.int p4), .val (.ref x3), .val .null, .val (.ref b409), .val (.int (0 : Int32)), .val (.ref b438), .val (.ref b455), .val (.ref x3), .val .null, .unset] [(.ref b455)])) rfl (hb hby at_198)
          have C534 := E_2.keep K3
          have C535 := C534.keep K409
          have C536 := C535.keep K410
          have C537 := C536.keep K412
          have C538 := C537.keep K414
          have C539 := C538.keep K416
          have C540 := C539.keep K417
          have C541 := C540.keep K438
          have C542 := C541.keep K447
          have C543 := C542.keep K449
          have C544 := C543.keep K454
          have C545 := C544.keep K455
          have C546 := C545.keep K456
          have C547 := C546.keep K457
          have C548 := F_2.keep K3 nin0
          have C549 := C548.keep K409 nin0
          have C550 := C549.keep K410 nin0
          have C551 := C550.keep K412 (ninS (by omega : @Ne Nat lf2 b410) (nin0))
          have C552 := C551.keep K414 (ninS (by omega : @Ne Nat lf2 b410) (nin0))
          have C553 := C552.keep K416 (ninS (by omega : @Ne Nat lf2 b410) (nin0))
          have C554 := C553.keep K417 (ninS (by omega : @Ne Nat lf2 b409) (nin0))
          have C555 := C554.keep K438 nin0
          have C556 := C555.keep K447 (ninS (by omega : @Ne Nat lf2 b438) (nin0))
          have C557 := C556.keep K449 (ninS (by omega : @Ne Nat lf2 b438) (nin0))
          have C558 := C557.keep K454 (ninS (by omega : @Ne Nat lf2 b438) (nin0))
          have C559 := C558.keep K455 nin0
          have C560 := C559.keep K456 nin0
          have C561 := C560.keep K457 (ninS (by omega : @Ne Nat lf2 b455) (nin0))
          obtain ⟨cq533, kq533, q533a, q533b, q533c⟩ := isOf hZ456 e532 E457
          obtain ⟨_, _, ⟨T533, L533, k533, n533⟩, -, X533, ⟨Lc533, hQ533, l533, y533, z533⟩, st533⟩ := X532.virtualBack hx (y := (⟨"com/example/links_to_sitemap/linkstositemap/SitemapFileWriter$Entry", "field", "(Lcom/example/links_to_sitemap/linkstositemap/LinkField;)Ljava/lang/String;"⟩ : MethodName)) (z := (⟨"com/example/links_to_sitemap/linkstositemap/SitemapFileWriter$Entry", "field", "(Lcom/example/links_to_sitemap/linkstositemap/LinkField;)Ljava/lang/String;"⟩ : MethodName)) hown456 (mvT hZ456 (tw hw 62 rfl)) (mvT hZ456 (tw hw 63 rfl)) (notFace_of_selects (args := #[]) (mvT hZ456 (tw hw 65 rfl))) (mvT hZ456 (tw hw 65 rfl)) (mvT hZ456 (tw hw 64 rfl)) (by decide) (backOf (W := 0) (rmFieldA l Z a0 hw [] b455 lf2 b438 k438 [(.ref x3), .null, (.ref b409)] (.ref b409) (2 : Int32) T457.heap n0 O468 F457 C473 C547 C561 (by decide) (by decide) rfl rfl) hZ456 (tw hw 66 rfl) (tw hw 47 rfl) (by decide) (by decide)) q533a q533c (g := (mkF m 201 #[.val (.int p1), .val (.int p2), .val (.int p3), .val (.int p4), .val (.ref x3), .val .null, .val (.ref b409), .val (.int (0 : Int32)), .val (.ref b438), .val (.ref b455), .val (.ref x3), .val .null, .unset] [(.ref lf2), (.ref b455)])) rfl (by rw [hml]; rfl) (Steps.refl _) (argsL := [(.ref lf2)]) (rest := []) (lenOf pd_11 rfl) rfl (by show 2 * 0 + _ ≤ _; exact Nat.le_of_eq rfl) (hb hby at_201) (fun _ _ => ⟨rfl, e532, (by decide : 9 + 0 ≤ _), (by decide : 104 + 0 ≤ _)⟩)
          dsimp only [Pt.U, Pt.locs, Pt.cells, Pt.slots] at X533 l533 y533 z533 st533 hQ533
          subst l533 y533 z533
          obtain ⟨rfl, N533q, H533⟩ := hQ533
          have N533 := Fr.app N503 N533q
          have C563 := C446.keep K447
          have C564 := C563.keep K449
          have C565 := C564.keep K454
          have C566 := C565.keep K455
          have C567 := C566.keep K456
          have C568 := C567.keep K457
          obtain ⟨_, _, ⟨T562, L562, k562, n562⟩, -, X562, ⟨Lc562, hQ562, l562, y562, z562⟩, st562⟩ := Jvm.LawKit.callS X533 hx (y := (⟨"com/example/links_to_sitemap/linkstositemap/EntryFieldPinLaw", "same", "(Ljava/lang/String;Ljava/lang/String;)Z"⟩ : MethodName)) hown456 (mvT hZ456 (tw hw 80 rfl)) (mvT hZ456 (tw hw 81 rfl)) (mvT hZ456 (tw hw 82 rfl)) (mvT hZ456 (tw hw 83 rfl)) (by decide) (backOf (W := 0) (rmSameX l Z a0 hw [] x3  T457.heap n0 O468 C568) hZ456 (tw hw 83 rfl) (tw hw 82 rfl) (by decide) (by decide)) (g := (mkF m 236 #[.val (.int p1), .val (.int p2), .val (.int p3), .val (.int p4), .val (.ref x3), .val .null, .val (.ref b409), .val (.int (0 : Int32)), .val (.ref b438), .val (.ref b455), .val (.ref x3), .val .null, .val (.ref b409)] [(.ref x3), (.ref x3)])) rfl (by rw [hml]; rfl) (argsL := [(.ref x3), (.ref x3)]) (rest := []) (lenOf pd_13 rfl) rfl (by show 2 * 0 + _ ≤ _; exact Nat.le_of_eq rfl) (hb hby at_236) (fun _ _ => ⟨rfl, H533, (by decide : 9 + 0 ≤ _), (by decide : 104 + 0 ≤ _)⟩)
          dsimp only [Pt.U, Pt.locs, Pt.cells, Pt.slots] at X562 l562 y562 z562 st562 hQ562
          subst l562 y562 z562
          obtain ⟨rfl, N562q, H562⟩ := hQ562
          have N562 := Fr.app N533 N562q
          obtain ⟨_, _, ⟨T569, L569, k569, n569⟩, -, X569, ⟨Lc569, hQ569, l569, y569, z569⟩, st569⟩ := Jvm.LawKit.callS X562 hx (y := (⟨"com/example/links_to_sitemap/linkstositemap/EntryFieldPinLaw", "same", "(Ljava/lang/String;Ljava/lang/String;)Z"⟩ : MethodName)) hown456 (mvT hZ456 (tw hw 80 rfl)) (mvT hZ456 (tw hw 81 rfl)) (mvT hZ456 (tw hw 82 rfl)) (mvT hZ456 (tw hw 83 rfl)) (by decide) (backOf (W := 0) (rmSameN l Z a0 hw []   T457.heap n0 O468 ) hZ456 (tw hw 83 rfl) (tw hw 82 rfl) (by decide) (by decide)) (g := (mkF m 246 #[.val (.int p1), .val (.int p2), .val (.int p3), .val (.int p4), .val (.ref x3), .val .null, .val (.ref b409), .val (.int (0 : Int32)), .val (.ref b438), .val (.ref b455), .val (.ref x3), .val .null, .val (.ref b409)] [.null, .null])) rfl (by rw [hml]; rfl) (argsL := [.null, .null]) (rest := []) (lenOf pd_13 rfl) rfl (by show 2 * 0 + _ ≤ _; exact Nat.le_of_eq rfl) (hb hby at_246) (fun _ _ => ⟨rfl, H562, (by decide : 9 + 0 ≤ _), (by decide : 104 + 0 ≤ _)⟩)
          dsimp only [Pt.U, Pt.locs, Pt.cells, Pt.slots] at X569 l569 y569 z569 st569 hQ569
          subst l569 y569 z569
          obtain ⟨rfl, N569q, H569⟩ := hQ569
          have N569 := Fr.app N562 N569q
          have C571 := C453.keep K454
          have C572 := C571.keep K455
          have C573 := C572.keep K456
          have C574 := C573.keep K457
          obtain ⟨_, _, ⟨T570, L570, k570, n570⟩, -, X570, ⟨Lc570, hQ570, l570, y570, z570⟩, st570⟩ := Jvm.LawKit.callS X569 hx (y := (⟨"com/example/links_to_sitemap/linkstositemap/EntryFieldPinLaw", "same", "(Ljava/lang/String;Ljava/lang/String;)Z"⟩ : MethodName)) hown456 (mvT hZ456 (tw hw 80 rfl)) (mvT hZ456 (tw hw 81 rfl)) (mvT hZ456 (tw hw 82 rfl)) (mvT hZ456 (tw hw 83 rfl)) (by decide) (backOf (W := 0) (rmSameX l Z a0 hw [] b409  T457.heap n0 O468 C574) hZ456 (tw hw 83 rfl) (tw hw 82 rfl) (by decide) (by decide)) (g := (mkF m 256 #[.val (.int p1), .val (.int p2), .val (.int p3), .val (.int p4), .val (.ref x3), .val .null, .val (.ref b409), .val (.int (0 : Int32)), .val (.ref b438), .val (.ref b455), .val (.ref x3), .val .null, .val (.ref b409)] [(.ref b409), (.ref b409)])) rfl (by rw [hml]; rfl) (argsL := [(.ref b409), (.ref b409)]) (rest := []) (lenOf pd_13 rfl) rfl (by show 2 * 0 + _ ≤ _; exact Nat.le_of_eq rfl) (hb hby at_256) (fun _ _ => ⟨rfl, H569, (by decide : 9 + 0 ≤ _), (by decide : 104 + 0 ≤ _)⟩)
          dsimp only [Pt.U, Pt.locs, Pt.cells, Pt.slots] at X570 l570 y570 z570 st570 hQ570
          subst l570 y570 z570
          obtain ⟨rfl, N570q, H570⟩ := hQ570
          have N570 := Fr.app N569 N570q
          obtain ⟨fs, hr, hrun, hended, eR, eW, eI, eS⟩ := Stand.leaveW (s := s) (vm₁ := T456.vm) X570 hS456 (by rw [H570]; omega) (v := some (.int (1 : Int32))) (fun h => by rw [Bd.returns] at h; cases h)
          refine ⟨_, _, pre437 _ ?_, hrun, hended, _, _, rfl, ?_, eR, eW, eI, eS.mono (by decide) (by decide)⟩
          · skip
            show Steps p.tables e below (T417.setTop (mkF m 123 #[.val (.int p1), .val (.int p2), .val (.int p3), .val (.int p4), .val (.ref x3), .val .null, .val (.ref b409), .unset, .unset, .unset, .unset, .unset, .unset] [(.int (p1 &&& (8 : Int32)))])) _
            refine XS.ifYes X417.here hx rfl (pc0 := 123) (pc' := 130) rfl (hb hby at_123) rfl ((if0 _ _).trans (teq hc436).1) (by decide) (by decide) ?_
            show Steps p.tables e below (T417.setTop (mkF m 130 #[.val (.int p1), .val (.int p2), .val (.int p3), .val (.int p4), .val (.ref x3), .val .null, .val (.ref b409), .unset, .unset, .unset, .unset, .unset, .unset] [])) _
            refine XS.iconst X417.here hx rfl (hb hby at_130) ?_
            show Steps p.tables e below (T417.setTop (mkF m 131 #[.val (.int p1), .val (.int p2), .val (.int p3), .val (.int p4), .val (.ref x3), .val .null, .val (.ref b409), .unset, .unset, .unset, .unset, .unset, .unset] [(.int (0 : Int32))])) _
            refine XS.istore X417.here hx rfl (hb hby at_131) rfl (l' := #[.val (.int p1), .val (.int p2), .val (.int p3), .val (.int p4), .val (.ref x3), .val .null, .val (.ref b409), .val (.int (0 : Int32)), .unset, .unset, .unset, .unset, .unset]) rfl ?_
            show Steps p.tables e below (T417.setTop (mkF m 133 #[.val (.int p1), .val (.int p2), .val (.int p3), .val (.int p4), .val (.ref x3), .val .null, .val (.ref b409), .val (.int (0 : Int32)), .unset, .unset, .unset, .unset, .unset] [])) _
            refine XS.iload X417.here hx rfl (hb hby at_133) rfl ?_
            show Steps p.tables e below (T417.setTop (mkF m 135 #[.val (.int p1), .val (.int p2), .val (.int p3), .val (.int p4), .val (.ref x3), .val .null, .val (.ref b409), .val (.int (0 : Int32)), .unset, .unset, .unset, .unset, .unset] [(.int (0 : Int32))])) _
            refine XS.ifYes X417.here hx rfl (pc0 := 135) (pc' := 142) rfl (hb hby at_135) rfl ((if0 _ _).trans (teq (by decide : (0 : Int32) = (0 : Int32))).1) (by decide) (by decide) ?_
            show Steps p.tables e below (T417.setTop (mkF m 142 #[.val (.int p1), .val (.int p2), .val (.int p3), .val (.int p4), .val (.ref x3), .val .null, .val (.ref b409), .val (.int (0 : Int32)), .unset, .unset, .unset, .unset, .unset] [])) _
            refine XS.iconst X417.here hx rfl (hb hby at_142) ?_
            show Steps p.tables e below (T417.setTop (mkF m 143 #[.val (.int p1), .val (.int p2), .val (.int p3), .val (.int p4), .val (.ref x3), .val .null, .val (.ref b409), .val (.int (0 : Int32)), .unset, .unset, .unset, .unset, .unset] [(.int (3 : Int32))])) _
            refine st438 _ ?_
            show Steps p.tables e below (T438.setTop (mkF m 146 #[.val (.int p1), .val (.int p2), .val (.int p3), .val (.int p4), .val (.ref x3), .val .null, .val (.ref b409), .val (.int (0 : Int32)), .unset, .unset, .unset, .unset, .unset] [(.ref b438)])) _
            refine XS.dup X438.here hx rfl (hb hby at_146) rfl rfl ?_
            show Steps p.tables e below (T438.setTop (mkF m 147 #[.val (.int p1), .val (.int p2), .val (.int p3), .val (.int p4), .val (.ref x3), .val .null, .val (.ref b409), .val (.int (0 : Int32)), .unset, .unset, .unset, .unset, .unset] [(.ref b438), (.ref b438)])) _
            refine XS.iconst X438.here hx rfl (hb hby at_147) ?_
            show Steps p.tables e below (T438.setTop (mkF m 148 #[.val (.int p1), .val (.int p2), .val (.int p3), .val (.int p4), .val (.ref x3), .val .null, .val (.ref b409), .val (.int (0 : Int32)), .unset, .unset, .unset, .unset, .unset] [(.int (0 : Int32)), (.ref b438), (.ref b438)])) _
            refine XS.aload X438.here hx rfl (hb hby at_148) rfl rfl ?_
            show Steps p.tables e below (T438.setTop (mkF m 150 #[.val (.int p1), .val (.int p2), .val (.int p3), .val (.int p4), .val (.ref x3), .val .null, .val (.ref b409), .val (.int (0 : Int32)), .unset, .unset, .unset, .unset, .unset] [(.ref x3), (.int (0 : Int32)), (.ref b438), (.ref b438)])) _
            refine st447 _ ?_
            show Steps p.tables e below (T447.setTop (mkF m 151 #[.val (.int p1), .val (.int p2), .val (.int p3), .val (.int p4), .val (.ref x3), .val .null, .val (.ref b409), .val (.int (0 : Int32)), .unset, .unset, .unset, .unset, .unset] [(.ref b438)])) _
            refine XS.dup X447.here hx rfl (hb hby at_151) rfl rfl ?_
            show Steps p.tables e below (T447.setTop (mkF m 152 #[.val (.int p1), .val (.int p2), .val (.int p3), .val (.int p4), .val (.ref x3), .val .null, .val (.ref b409), .val (.int (0 : Int32)), .unset, .unset, .unset, .unset, .unset] [(.ref b438), (.ref b438)])) _
            refine XS.iconst X447.here hx rfl (hb hby at_152) ?_
            show Steps p.tables e below (T447.setTop (mkF m 153 #[.val (.int p1), .val (.int p2), .val (.int p3), .val (.int p4), .val (.ref x3), .val .null, .val (.ref b409), .val (.int (0 : Int32)), .unset, .unset, .unset, .unset, .unset] [(.int (1 : Int32)), (.ref b438), (.ref b438)])) _
            refine XS.aload X447.here hx rfl (hb hby at_153) rfl rfl ?_
            show Steps p.tables e below (T447.setTop (mkF m 155 #[.val (.int p1), .val (.int p2), .val (.int p3), .val (.int p4), .val (.ref x3), .val .null, .val (.ref b409), .val (.int (0 : Int32)), .unset, .unset, .unset, .unset, .unset] [.null, (.int (1 : Int32)), (.ref b438), (.ref b438)])) _
            refine st449 _ ?_
            show Steps p.tables e below (T449.setTop (mkF m 156 #[.val (.int p1), .val (.int p2), .val (.int p3), .val (.int p4), .val (.ref x3), .val .null, .val (.ref b409), .val (.int (0 : Int32)), .unset, .unset, .unset, .unset, .unset] [(.ref b438)])) _
            refine XS.dup X449.here hx rfl (hb hby at_156) rfl rfl ?_
            show Steps p.tables e below (T449.setTop (mkF m 157 #[.val (.int p1), .val (.int p2), .val (.int p3), .val (.int p4), .val (.ref x3), .val .null, .val (.ref b409), .val (.int (0 : Int32)), .unset, .unset, .unset, .unset, .unset] [(.ref b438), (.ref b438)])) _
            refine XS.iconst X449.here hx rfl (hb hby at_157) ?_
            show Steps p.tables e below (T449.setTop (mkF m 158 #[.val (.int p1), .val (.int p2), .val (.int p3), .val (.int p4), .val (.ref x3), .val .null, .val (.ref b409), .val (.int (0 : Int32)), .unset, .unset, .unset, .unset, .unset] [(.int (2 : Int32)), (.ref b438), (.ref b438)])) _
            refine XS.aload X449.here hx rfl (hb hby at_158) rfl rfl ?_
            show Steps p.tables e below (T449.setTop (mkF m 160 #[.val (.int p1), .val (.int p2), .val (.int p3), .val (.int p4), .val (.ref x3), .val .null, .val (.ref b409), .val (.int (0 : Int32)), .unset, .unset, .unset, .unset, .unset] [(.ref b409), (.int (2 : Int32)), (.ref b438), (.ref b438)])) _
            refine st454 _ ?_
            show Steps p.tables e below (T454.setTop (mkF m 161 #[.val (.int p1), .val (.int p2), .val (.int p3), .val (.int p4), .val (.ref x3), .val .null, .val (.ref b409), .val (.int (0 : Int32)), .unset, .unset, .unset, .unset, .unset] [(.ref b438)])) _
            refine XS.astore X454.here hx rfl (hb hby at_161) rfl rfl (l' := #[.val (.int p1), .val (.int p2), .val (.int p3), .val (.int p4), .val (.ref x3), .val .null, .val (.ref b409), .val (.int (0 : Int32)), .val (.ref b438), .unset, .unset, .unset, .unset]) rfl ?_
            show Steps p.tables e below (T454.setTop (mkF m 163 #[.val (.int p1), .val (.int p2), .val (.int p3), .val (.int p4), .val (.ref x3), .val .null, .val (.ref b409), .val (.int (0 : Int32)), .val (.ref b438), .unset, .unset, .unset, .unset] [])) _
            refine st455 _ ?_
            show Steps p.tables e below (T455.setTop (mkF m 166 #[.val (.int p1), .val (.int p2), .val (.int p3), .val (.int p4), .val (.ref x3), .val .null, .val (.ref b409), .val (.int (0 : Int32)), .val (.ref b438), .unset, .unset, .unset, .unset] [(.ref b455)])) _
            refine XS.dup X455.here hx rfl (hb hby at_166) rfl rfl ?_
            show Steps p.tables e below (T455.setTop (mkF m 167 #[.val (.int p1), .val (.int p2), .val (.int p3), .val (.int p4), .val (.ref x3), .val .null, .val (.ref b409), .val (.int (0 : Int32)), .val (.ref b438), .unset, .unset, .unset, .unset] [(.ref b455), (.ref b455)])) _
            refine st456 _ ?_
            show Steps p.tables e below (T456.setTop (mkF m 169 #[.val (.int p1), .val (.int p2), .val (.int p3), .val (.int p4), .val (.ref x3), .val .null, .val (.ref b409), .val (.int (0 : Int32)), .val (.ref b438), .unset, .unset, .unset, .unset] [(.ref b456), (.ref b455), (.ref b455)])) _
            refine XS.aload X456.here hx rfl (hb hby at_169) rfl rfl ?_
            show Steps p.tables e below (T456.setTop (mkF m 171 #[.val (.int p1), .val (.int p2), .val (.int p3), .val (.int p4), .val (.ref x3), .val .null, .val (.ref b409), .val (.int (0 : Int32)), .val (.ref b438), .unset, .unset, .unset, .unset] [(.ref b438), (.ref b456), (.ref b455), (.ref b455)])) _
            refine st457.trans ?_
            show Steps p.tables e below (T457.setTop (mkF m 174 #[.val (.int p1), .val (.int p2), .val (.int p3), .val (.int p4), .val (.ref x3), .val .null, .val (.ref b409), .val (.int (0 : Int32)), .val (.ref b438), .unset, .unset, .unset, .unset] [(.ref b455)])) _
            refine XS.astore X457.here hx rfl (hb hby at_174) rfl rfl (l' := #[.val (.int p1), .val (.int p2), .val (.int p3), .val (.int p4), .val (.ref x3), .val .null, .val (.ref b409), .val (.int (0 : Int32)), .val (.ref b438), .val (.ref b455), .unset, .unset, .unset]) rfl ?_
            show Steps p.tables e below (T457.setTop (mkF m 176 #[.val (.int p1), .val (.int p2), .val (.int p3), .val (.int p4), .val (.ref x3), .val .null, .val (.ref b409), .val (.int (0 : Int32)), .val (.ref b438), .val (.ref b455), .unset, .unset, .unset] [])) _
            refine XS.aload X457.here hx rfl (hb hby at_176) rfl rfl ?_
            show Steps p.tables e below (T457.setTop (mkF m 178 #[.val (.int p1), .val (.int p2), .val (.int p3), .val (.int p4), .val (.ref x3), .val .null, .val (.ref b409), .val (.int (0 : Int32)), .val (.ref b438), .val (.ref b455), .unset, .unset, .unset] [(.ref b455)])) _
            refine st469 _ ?_
            show Steps p.tables e below (T469.setTop (mkF m 181 #[.val (.int p1), .val (.int p2), .val (.int p3), .val (.int p4), .val (.ref x3), .val .null, .val (.ref b409), .val (.int (0 : Int32)), .val (.ref b438), .val (.ref b455), .unset, .unset, .unset] [(.ref lf0), (.ref b455)])) _
            refine st470.trans ?_
            show Steps p.tables e below (T470.setTop (mkF m 184 #[.val (.int p1), .val (.int p2), .val (.int p3), .val (.int p4), .val (.ref x3), .val .null, .val (.ref b409), .val (.int (0 : Int32)), .val (.ref b438), .val (.ref b455), .unset, .unset, .unset] [(.ref x3)])) _
            refine XS.astore X470.here hx rfl (hb hby at_184) rfl rfl (l' := #[.val (.int p1), .val (.int p2), .val (.int p3), .val (.int p4), .val (.ref x3), .val .null, .val (.ref b409), .val (.int (0 : Int32)), .val (.ref b438), .val (.ref b455), .val (.ref x3), .unset, .unset]) rfl ?_
            show Steps p.tables e below (T470.setTop (mkF m 186 #[.val (.int p1), .val (.int p2), .val (.int p3), .val (.int p4), .val (.ref x3), .val .null, .val (.ref b409), .val (.int (0 : Int32)), .val (.ref b438), .val (.ref b455), .val (.ref x3), .unset, .unset] [])) _
            refine XS.aload X470.here hx rfl (hb hby at_186) rfl rfl ?_
            show Steps p.tables e below (T470.setTop (mkF m 188 #[.val (.int p1), .val (.int p2), .val (.int p3), .val (.int p4), .val (.ref x3), .val .null, .val (.ref b409), .val (.int (0 : Int32)), .val (.ref b438), .val (.ref b455), .val (.ref x3), .unset, .unset] [(.ref b455)])) _
            refine st502 _ ?_
            show Steps p.tables e below (T502.setTop (mkF m 191 #[.val (.int p1), .val (.int p2), .val (.int p3), .val (.int p4), .val (.ref x3), .val .null, .val (.ref b409), .val (.int (0 : Int32)), .val (.ref b438), .val (.ref b455), .val (.ref x3), .unset, .unset] [(.ref lf1), (.ref b455)])) _
            refine st503.trans ?_
            show Steps p.tables e below (T503.setTop (mkF m 194 #[.val (.int p1), .val (.int p2), .val (.int p3), .val (.int p4), .val (.ref x3), .val .null, .val (.ref b409), .val (.int (0 : Int32)), .val (.ref b438), .val (.ref b455), .val (.ref x3), .unset, .unset] [.null])) _
            refine XS.astore X503.here hx rfl (hb hby at_194) rfl rfl (l' := #[.val (.int p1), .val (.int p2), .val (.int p3), .val (.int p4), .val (.ref x3), .val .null, .val (.ref b409), .val (.int (0 : Int32)), .val (.ref b438), .val (.ref b455), .val (.ref x3), .val .null, .unset]) rfl ?_
            show Steps p.tables e below (T503.setTop (mkF m 196 #[.val (.int p1), .val (.int p2), .val (.int p3), .val (.int p4), .val (.ref x3), .val .null, .val (.ref b409), .val (.int (0 : Int32)), .val (.ref b438), .val (.ref b455), .val (.ref x3), .val .null, .unset] [])) _
            refine XS.aload X503.here hx rfl (hb hby at_196) rfl rfl ?_
            show Steps p.tables e below (T503.setTop (mkF m 198 #[.val (.int p1), .val (.int p2), .val (.int p3), .val (.int p4), .val (.ref x3), .val .null, .val (.ref b409), .val (.int (0 : Int32)), .val (.ref b438), .val (.ref b455), .val (.ref x3), .val .null, .unset] [(.ref b455)])) _
            refine st532 _ ?_
            show Steps p.tables e below (T532.setTop (mkF m 201 #[.val (.int p1), .val (.int p2), .val (.int p3), .val (.int p4), .val (.ref x3), .val .null, .val (.ref b409), .val (.int (0 : Int32)), .val (.ref b438), .val (.ref b455), .val (.ref x3), .val .null, .unset] [(.ref lf2), (.ref b455)])) _
            refine st533.trans ?_
            show Steps p.tables e below (T533.setTop (mkF m 204 #[.val (.int p1), .val (.int p2), .val (.int p3), .val (.int p4), .val (.ref x3), .val .null, .val (.ref b409), .val (.int (0 : Int32)), .val (.ref b438), .val (.ref b455), .val (.ref x3), .val .null, .unset] [(.ref b409)])) _
            refine XS.astore X533.here hx rfl (hb hby at_204) rfl rfl (l' := #[.val (.int p1), .val (.int p2), .val (.int p3), .val (.int p4), .val (.ref x3), .val .null, .val (.ref b409), .val (.int (0 : Int32)), .val (.ref b438), .val (.ref b455), .val (.ref x3), .val .null, .val (.ref b409)]) rfl ?_
            show Steps p.tables e below (T533.setTop (mkF m 206 #[.val (.int p1), .val (.int p2), .val (.int p3), .val (.int p4), .val (.ref x3), .val .null, .val (.ref b409), .val (.int (0 : Int32)), .val (.ref b438), .val (.ref b455), .val (.ref x3), .val .null, .val (.ref b409)] [])) _
            refine XS.iload X533.here hx rfl (hb hby at_206) rfl ?_
            show Steps p.tables e below (T533.setTop (mkF m 208 #[.val (.int p1), .val (.int p2), .val (.int p3), .val (.int p4), .val (.ref x3), .val .null, .val (.ref b409), .val (.int (0 : Int32)), .val (.ref b438), .val (.ref b455), .val (.ref x3), .val .null, .val (.ref b409)] [(.int (0 : Int32))])) _
            refine XS.ifYes X533.here hx rfl (pc0 := 208) (pc' := 232) rfl (hb hby at_208) rfl ((if0 _ _).trans (teq (by decide : (0 : Int32) = (0 : Int32))).1) (by decide) (by decide) ?_
            show Steps p.tables e below (T533.setTop (mkF m 232 #[.val (.int p1), .val (.int p2), .val (.int p3), .val (.int p4), .val (.ref x3), .val .null, .val (.ref b409), .val (.int (0 : Int32)), .val (.ref b438), .val (.ref b455), .val (.ref x3), .val .null, .val (.ref b409)] [])) _
            refine XS.aload X533.here hx rfl (hb hby at_232) rfl rfl ?_
            show Steps p.tables e below (T533.setTop (mkF m 234 #[.val (.int p1), .val (.int p2), .val (.int p3), .val (.int p4), .val (.ref x3), .val .null, .val (.ref b409), .val (.int (0 : Int32)), .val (.ref b438), .val (.ref b455), .val (.ref x3), .val .null, .val (.ref b409)] [(.ref x3)])) _
            refine XS.aload X533.here hx rfl (hb hby at_234) rfl rfl ?_
            show Steps p.tables e below (T533.setTop (mkF m 236 #[.val (.int p1), .val (.int p2), .val (.int p3), .val (.int p4), .val (.ref x3), .val .null, .val (.ref b409), .val (.int (0 : Int32)), .val (.ref b438), .val (.ref b455), .val (.ref x3), .val .null, .val (.ref b409)] [(.ref x3), (.ref x3)])) _
            refine st562 _ ?_
            show Steps p.tables e below (T562.setTop (mkF m 239 #[.val (.int p1), .val (.int p2), .val (.int p3), .val (.int p4), .val (.ref x3), .val .null, .val (.ref b409), .val (.int (0 : Int32)), .val (.ref b438), .val (.ref b455), .val (.ref x3), .val .null, .val (.ref b409)] [(.int (1 : Int32))])) _
            refine XS.ifNo X562.here hx rfl (hb hby at_239) rfl ((if0 _ _).trans (feq (by decide : ¬ ((1 : Int32) = (0 : Int32)))).1) ?_
            show Steps p.tables e below (T562.setTop (mkF m 242 #[.val (.int p1), .val (.int p2), .val (.int p3), .val (.int p4), .val (.ref x3), .val .null, .val (.ref b409), .val (.int (0 : Int32)), .val (.ref b438), .val (.ref b455), .val (.ref x3), .val .null, .val (.ref b409)] [])) _
            refine XS.aload X562.here hx rfl (hb hby at_242) rfl rfl ?_
            show Steps p.tables e below (T562.setTop (mkF m 244 #[.val (.int p1), .val (.int p2), .val (.int p3), .val (.int p4), .val (.ref x3), .val .null, .val (.ref b409), .val (.int (0 : Int32)), .val (.ref b438), .val (.ref b455), .val (.ref x3), .val .null, .val (.ref b409)] [.null])) _
            refine XS.aload X562.here hx rfl (hb hby at_244) rfl rfl ?_
            show Steps p.tables e below (T562.setTop (mkF m 246 #[.val (.int p1), .val (.int p2), .val (.int p3), .val (.int p4), .val (.ref x3), .val .null, .val (.ref b409), .val (.int (0 : Int32)), .val (.ref b438), .val (.ref b455), .val (.ref x3), .val .null, .val (.ref b409)] [.null, .null])) _
            refine st569 _ ?_
            show Steps p.tables e below (T569.setTop (mkF m 249 #[.val (.int p1), .val (.int p2), .val (.int p3), .val (.int p4), .val (.ref x3), .val .null, .val (.ref b409), .val (.int (0 : Int32)), .val (.ref b438), .val (.ref b455), .val (.ref x3), .val .null, .val (.ref b409)] [(.int (1 : Int32))])) _
            refine XS.ifNo X569.here hx rfl (hb hby at_249) rfl ((if0 _ _).trans (feq (by decide : ¬ ((1 : Int32) = (0 : Int32)))).1) ?_
            show Steps p.tables e below (T569.setTop (mkF m 252 #[.val (.int p1), .val (.int p2), .val (.int p3), .val (.int p4), .val (.ref x3), .val .null, .val (.ref b409), .val (.int (0 : Int32)), .val (.ref b438), .val (.ref b455), .val (.ref x3), .val .null, .val (.ref b409)] [])) _
            refine XS.aload X569.here hx rfl (hb hby at_252) rfl rfl ?_
            show Steps p.tables e below (T569.setTop (mkF m 254 #[.val (.int p1), .val (.int p2), .val (.int p3), .val (.int p4), .val (.ref x3), .val .null, .val (.ref b409), .val (.int (0 : Int32)), .val (.ref b438), .val (.ref b455), .val (.ref x3), .val .null, .val (.ref b409)] [(.ref b409)])) _
            refine XS.aload X569.here hx rfl (hb hby at_254) rfl rfl ?_
            show Steps p.tables e below (T569.setTop (mkF m 256 #[.val (.int p1), .val (.int p2), .val (.int p3), .val (.int p4), .val (.ref x3), .val .null, .val (.ref b409), .val (.int (0 : Int32)), .val (.ref b438), .val (.ref b455), .val (.ref x3), .val .null, .val (.ref b409)] [(.ref b409), (.ref b409)])) _
            refine st570 _ ?_
            show Steps p.tables e below (T570.setTop (mkF m 259 #[.val (.int p1), .val (.int p2), .val (.int p3), .val (.int p4), .val (.ref x3), .val .null, .val (.ref b409), .val (.int (0 : Int32)), .val (.ref b438), .val (.ref b455), .val (.ref x3), .val .null, .val (.ref b409)] [(.int (1 : Int32))])) _
            refine XS.ifNo X570.here hx rfl (hb hby at_259) rfl ((if0 _ _).trans (feq (by decide : ¬ ((1 : Int32) = (0 : Int32)))).1) ?_
            show Steps p.tables e below (T570.setTop (mkF m 262 #[.val (.int p1), .val (.int p2), .val (.int p3), .val (.int p4), .val (.ref x3), .val .null, .val (.ref b409), .val (.int (0 : Int32)), .val (.ref b438), .val (.ref b455), .val (.ref x3), .val .null, .val (.ref b409)] [])) _
            refine XS.iconst X570.here hx rfl (hb hby at_262) ?_
            show Steps p.tables e below (T570.setTop (mkF m 263 #[.val (.int p1), .val (.int p2), .val (.int p3), .val (.int p4), .val (.ref x3), .val .null, .val (.ref b409), .val (.int (0 : Int32)), .val (.ref b438), .val (.ref b455), .val (.ref x3), .val .null, .val (.ref b409)] [(.int (1 : Int32))])) _
            refine XS.goto X570.here hx rfl (pc0 := 263) (pc' := 267) rfl (hb hby at_263) (by decide) (by decide) ?_
            show Steps p.tables e below (T570.setTop (mkF m 267 #[.val (.int p1), .val (.int p2), .val (.int p3), .val (.int p4), .val (.ref x3), .val .null, .val (.ref b409), .val (.int (0 : Int32)), .val (.ref b438), .val (.ref b455), .val (.ref x3), .val .null, .val (.ref b409)] [(.int (1 : Int32))])) _
            exact retN X570 hx (t := .boolean) Bd.returns (by simp) (hb hby at_267) hr
          · show Q_rm0 Z p1 p2 p3 p4 cs lf0 lf1 lf2 h0 n0 _ T570.heap _
            rw [H570]
            exact ⟨rfl, N570⟩
        · skip
          obtain ⟨T575, h575, X575, e575, E575, A575, D575, -, st575⟩ := newO X417 hx hZ hown (tw hw 45 rfl) (tw hw 46 rfl) (tw hw 47 rfl) rfl (g := (mkF m 163 #[.val (.int p1), .val (.int p2), .val (.int p3), .val (.int p4), .val (.ref x3), .val .null, .val (.ref b409), .val (.int (1 : Int32)), .val .null, .unset, .unset, .unset, .unset] [])) rfl (hb hby at_163) (by decide) (by decide)
          obtain ⟨b575, g575⟩ : ∃ z, z = T417.heap.size := ⟨_, rfl⟩
          rw [← g575] at A575 D575 st575
          have lt575 : @LT.lt Nat _ b575 h575.size := A575.lt
          have K575 : Keep T417.heap h575 [] := (Keep.refl _ _).ext E575
          have sz8_K575 := K575.1
          have F575_loc : Fld Z h575 b575 "com/example/links_to_sitemap/linkstositemap/SitemapFileWriter$Entry" "loc" "Ljava/lang/String;" .null := D575 (Or.inr (tw hw 56 rfl)) (ty := (.object "java/lang/String")) (by decide)
          have F575_fields : Fld Z h575 b575 "com/example/links_to_sitemap/linkstositemap/SitemapFileWriter$Entry" "fields" "[Ljava/lang/String;" .null := D575 (Or.inr (tw hw 58 rfl)) (ty := (.array (.object "java/lang/String"))) (by decide)
          obtain ⟨b576, T576, h576, k576, X576, e576, E576, hS576, hk576, hZ576, hown576, st576⟩ := ldcS (s := s) (vm0 := s.vm) X575 hx hZ hown (tw hw 48 rfl) wStr e575 hS0 (by omega) (g := (mkF m 167 #[.val (.int p1), .val (.int p2), .val (.int p3), .val (.int p4), .val (.ref x3), .val .null, .val (.ref b409), .val (.int (1 : Int32)), .val .null, .unset, .unset, .unset, .unset] [(.ref b575), (.ref b575)])) rfl (hb hby at_167) (n := 80) (by decide) (by decide) (by decide) (by decide)
          have K576 : Keep h575 h576 [] := (Keep.refl _ _).ext E576
          have sz9_K576 := K576.1
          have C578 := A575.keep K576
          have C579 := F575_loc.keep K576 nin0
          have C580 := F575_fields.keep K576 nin0
          have O581 : Old Z n0 T417.heap := O435.keep K417 (allS (by omega) (all0))
          have O582 : Old Z n0 h575 := O581.keep K575 all0
          have O583 : Old Z n0 h576 := O582.keep K576 all0
          obtain ⟨_, _, ⟨T577, L577, k577, n577⟩, -, X577, ⟨Lc577, hQ577, l577, y577, z577⟩, st577⟩ := X576.specialBack hx (y := (⟨"com/example/links_to_sitemap/linkstositemap/SitemapFileWriter$Entry", "<init>", "(Ljava/lang/String;[Ljava/lang/String;)V"⟩ : MethodName)) rfl hown576 (mvT hZ576 (tw hw 51 rfl)) (mvT hZ576 (tw hw 52 rfl)) (mvT hZ576 (tw hw 53 rfl)) (by decide) (backOf (W := 1) (rmEntryN l Z a0 hw [] b575 b576  h576 n0 O583 (by omega : @LE.le Nat _ n0 b575) C578 C579 C580) hZ576 (tw hw 53 rfl) (tw hw 47 rfl) (by decide) (by decide)) (g := (mkF m 171 #[.val (.int p1), .val (.int p2), .val (.int p3), .val (.int p4), .val (.ref x3), .val .null, .val (.ref b409), .val (.int (1 : Int32)), .val .null, .unset, .unset, .unset, .unset] [.null, (.ref b576), (.ref b575), (.ref b575)])) rfl (by rw [hml]; rfl) (Steps.refl _) (a := b575) (argsL := [(.ref b576), .null]) (rest := [(.ref b575)]) (lenOf pd_10 rfl) rfl (by show 2 * 0 + _ ≤ _; exact Nat.le_of_eq rfl) (hb hby at_171) (fun _ _ => ⟨rfl, e576, (by decide : 8 + 0 ≤ _), (by decide : 101 + 0 ≤ _)⟩)
          dsimp only [Pt.U, Pt.locs, Pt.cells, Pt.slots] at X577 l577 y577 z577 st577 hQ577
          subst l577 y577 z577
          obtain ⟨rfl, N577q, K577, E577, F577⟩ := hQ577
          have sz10_K577 := K577.1
          have N577 := Fr.app N417 N577q
          have O584 : Old Z n0 T577.heap := O583.keep K577 (allS (by omega) (all0))
          obtain ⟨T585, X585, e585, st585⟩ := getS2 X577 hx hZ576 hown576 (host := "") (Or.inl (tw hw 59 rfl)) Via.refl rfl (Sta.ext O584.2 S_0) (g := (mkF m 178 #[.val (.int p1), .val (.int p2), .val (.int p3), .val (.int p4), .val (.ref x3), .val .null, .val (.ref b409), .val (.int (1 : Int32)), .val .null, .val (.ref b575), .unset, .unset, .unset] [(.ref b575)])) rfl (hb hby at_178)
          obtain ⟨cq586, kq586, q586a, q586b, q586c⟩ := isOf hZ576 e585 E577
          obtain ⟨_, _, ⟨T586, L586, k586, n586⟩, -, X586, ⟨Lc586, hQ586, l586, y586, z586⟩, st586⟩ := X585.virtualBack hx (y := (⟨"com/example/links_to_sitemap/linkstositemap/SitemapFileWriter$Entry", "field", "(Lcom/example/links_to_sitemap/linkstositemap/LinkField;)Ljava/lang/String;"⟩ : MethodName)) (z := (⟨"com/example/links_to_sitemap/linkstositemap/SitemapFileWriter$Entry", "field", "(Lcom/example/links_to_sitemap/linkstositemap/LinkField;)Ljava/lang/String;"⟩ : MethodName)) hown576 (mvT hZ576 (tw hw 62 rfl)) (mvT hZ576 (tw hw 63 rfl)) (notFace_of_selects (args := #[]) (mvT hZ576 (tw hw 65 rfl))) (mvT hZ576 (tw hw 65 rfl)) (mvT hZ576 (tw hw 64 rfl)) (by decide) (backOf (W := 0) (rmFieldN l Z a0 hw [] b575 lf0  T577.heap n0 O584 F577) hZ576 (tw hw 66 rfl) (tw hw 47 rfl) (by decide) (by decide)) q586a q586c (g := (mkF m 181 #[.val (.int p1), .val (.int p2), .val (.int p3), .val (.int p4), .val (.ref x3), .val .null, .val (.ref b409), .val (.int (1 : Int32)), .val .null, .val (.ref b575), .unset, .unset, .unset] [(.ref lf0), (.ref b575)])) rfl (by rw [hml]; rfl) (Steps.refl _) (argsL := [(.ref lf0)]) (rest := []) (lenOf pd_11 rfl) rfl (by show 2 * 0 + _ ≤ _; exact Nat.le_of_eq rfl) (hb hby at_181) (fun _ _ => ⟨rfl, e585, (by decide : 8 + 0 ≤ _), (by decide : 101 + 0 ≤ _)⟩)
          dsimp only [Pt.U, Pt.locs, Pt.cells, Pt.slots] at X586 l586 y586 z586 st586 hQ586
          subst l586 y586 z586
          obtain ⟨rfl, N586q, H586⟩ := hQ586
          have N586 := Fr.app N577 N586q
          obtain ⟨T587, X587, e587, st587⟩ := getS2 X586 hx hZ576 hown576 (host := "") (Or.inl (tw hw 76 rfl)) Via.refl H586 (Sta.ext O584.2 S_1) (g := (mkF m 188 #[.val (.int p1), .val (.int p2), .val (.int p3), .val (.int p4), .val (.ref x3), .val .null, .val (.ref b409), .val (.int (1 : Int32)), .val .null, .val (.ref b575), .val .null, .unset, .unset] [(.ref b575)])) rfl (hb hby at_188)
          obtain ⟨cq588, kq588, q588a, q588b, q588c⟩ := isOf hZ576 e587 E577
          obtain ⟨_, _, ⟨T588, L588, k588, n588⟩, -, X588, ⟨Lc588, hQ588, l588, y588, z588⟩, st588⟩ := X587.virtualBack hx (y := (⟨"com/example/links_to_sitemap/linkstositemap/SitemapFileWriter$Entry", "field", "(Lcom/example/links_to_sitemap/linkstositemap/LinkField;)Ljava/lang/String;"⟩ : MethodName)) (z := (⟨"com/example/links_to_sitemap/linkstositemap/SitemapFileWriter$Entry", "field", "(Lcom/example/links_to_sitemap/linkstositemap/LinkField;)Ljava/lang/String;"⟩ : MethodName)) hown576 (mvT hZ576 (tw hw 62 rfl)) (mvT hZ576 (tw hw 63 rfl)) (notFace_of_selects (args := #[]) (mvT hZ576 (tw hw 65 rfl))) (mvT hZ576 (tw hw 65 rfl)) (mvT hZ576 (tw hw 64 rfl)) (by decide) (backOf (W := 0) (rmFieldN l Z a0 hw [] b575 lf1  T577.heap n0 O584 F577) hZ576 (tw hw 66 rfl) (tw hw 47 rfl) (by decide) (by decide)) q588a q588c (g := (mkF m 191 #[.val (.int p1), .val (.int p2), .val (.int p3), .val (.int p4), .val (.ref x3), .val .null, .val (.ref b409), .val (.int (1 : Int32)), .val .null, .val (.ref b575), .val .null, .unset, .unset] [(.ref lf1), (.ref b575)])) rfl (by rw [hml]; rfl) (Steps.refl _) (argsL := [(.ref lf1)]) (rest := []) (lenOf pd_11 rfl) rfl (by show 2 * 0 + _ ≤ _; exact Nat.le_of_eq rfl) (hb hby at_191) (fun _ _ => ⟨rfl, e587, (by decide : 8 + 0 ≤ _), (by decide : 101 + 0 ≤ _)⟩)
          dsimp only [Pt.U, Pt.locs, Pt.cells, Pt.slots] at X588 l588 y588 z588 st588 hQ588
          subst l588 y588 z588
          obtain ⟨rfl, N588q, H588⟩ := hQ588
          have N588 := Fr.app N586 N588q
          obtain ⟨T589, X589, e589, st589⟩ := getS2 X588 hx hZ576 hown576 (host := "") (Or.inl (tw hw 78 rfl)) Via.refl H588 (Sta.ext O584.2 S_2) (g := (mkF m 198 #[.val (.int p1), .val (.int p2), .val (.int p3), .val (.int p4), .val (.ref x3), .val .null, .val (.ref b409), .val (.int (1 : Int32)), .val .null, .val (.ref b575), .val .null, .val .null, .unset] [(.ref b575)])) rfl (hb hby at_198)
          obtain ⟨cq590, kq590, q590a, q590b, q590c⟩ := isOf hZ576 e589 E577
          obtain ⟨_, _, ⟨T590, L590, k590, n590⟩, -, X590, ⟨Lc590, hQ590, l590, y590, z590⟩, st590⟩ := X589.virtualBack hx (y := (⟨"com/example/links_to_sitemap/linkstositemap/SitemapFileWriter$Entry", "field", "(Lcom/example/links_to_sitemap/linkstositemap/LinkField;)Ljava/lang/String;"⟩ : MethodName)) (z := (⟨"com/example/links_to_sitemap/linkstositemap/SitemapFileWriter$Entry", "field", "(Lcom/example/links_to_sitemap/linkstositemap/LinkField;)Ljava/lang/String;"⟩ : MethodName)) hown576 (mvT hZ576 (tw hw 62 rfl)) (mvT hZ576 (tw hw 63 rfl)) (notFace_of_selects (args := #[]) (mvT hZ576 (tw hw 65 rfl))) (mvT hZ576 (tw hw 65 rfl)) (mvT hZ576 (tw hw 64 rfl)) (by decide) (backOf (W := 0) (rmFieldN l Z a0 hw [] b575 lf2  T577.heap n0 O584 F577) hZ576 (tw hw 66 rfl) (tw hw 47 rfl) (by decide) (by decide)) q590a q590c (g := (mkF m 201 #[.val (.int p1), .val (.int p2), .val (.int p3), .val (.int p4), .val (.ref x3), .val .null, .val (.ref b409), .val (.int (1 : Int32)), .val .null, .val (.ref b575), .val .null, .val .null, .unset] [(.ref lf2), (.ref b575)])) rfl (by rw [hml]; rfl) (Steps.refl _) (argsL := [(.ref lf2)]) (rest := []) (lenOf pd_11 rfl) rfl (by show 2 * 0 + _ ≤ _; exact Nat.le_of_eq rfl) (hb hby at_201) (fun _ _ => ⟨rfl, e589, (by decide : 8 + 0 ≤ _), (by decide : 101 + 0 ≤ _)⟩)
          dsimp only [Pt.U, Pt.locs, Pt.cells, Pt.slots] at X590 l590 y590 z590 st590 hQ590
          subst l590 y590 z590
          obtain ⟨rfl, N590q, H590⟩ := hQ590
          have N590 := Fr.app N588 N590q
          obtain ⟨fs, hr, hrun, hended, eR, eW, eI, eS⟩ := Stand.leaveW (s := s) (vm₁ := T576.vm) X590 hS576 (by rw [H590]; omega) (v := some (.int (1 : Int32))) (fun h => by rw [Bd.returns] at h; cases h)
          refine ⟨_, _, pre437 _ ?_, hrun, hended, _, _, rfl, ?_, eR, eW, eI, eS.mono (by decide) (by decide)⟩
          · skip
            show Steps p.tables e below (T417.setTop (mkF m 123 #[.val (.int p1), .val (.int p2), .val (.int p3), .val (.int p4), .val (.ref x3), .val .null, .val (.ref b409), .unset, .unset, .unset, .unset, .unset, .unset] [(.int (p1 &&& (8 : Int32)))])) _
            refine XS.ifNo X417.here hx rfl (hb hby at_123) rfl ((if0 _ _).trans (feq hc436).1) ?_
            show Steps p.tables e below (T417.setTop (mkF m 126 #[.val (.int p1), .val (.int p2), .val (.int p3), .val (.int p4), .val (.ref x3), .val .null, .val (.ref b409), .unset, .unset, .unset, .unset, .unset, .unset] [])) _
            refine XS.iconst X417.here hx rfl (hb hby at_126) ?_
            show Steps p.tables e below (T417.setTop (mkF m 127 #[.val (.int p1), .val (.int p2), .val (.int p3), .val (.int p4), .val (.ref x3), .val .null, .val (.ref b409), .unset, .unset, .unset, .unset, .unset, .unset] [(.int (1 : Int32))])) _
            refine XS.goto X417.here hx rfl (pc0 := 127) (pc' := 131) rfl (hb hby at_127) (by decide) (by decide) ?_
            show Steps p.tables e below (T417.setTop (mkF m 131 #[.val (.int p1), .val (.int p2), .val (.int p3), .val (.int p4), .val (.ref x3), .val .null, .val (.ref b409), .unset, .unset, .unset, .unset, .unset, .unset] [(.int (1 : Int32))])) _
            refine XS.istore X417.here hx rfl (hb hby at_131) rfl (l' := #[.val (.int p1), .val (.int p2), .val (.int p3), .val (.int p4), .val (.ref x3), .val .null, .val (.ref b409), .val (.int (1 : Int32)), .unset, .unset, .unset, .unset, .unset]) rfl ?_
            show Steps p.tables e below (T417.setTop (mkF m 133 #[.val (.int p1), .val (.int p2), .val (.int p3), .val (.int p4), .val (.ref x3), .val .null, .val (.ref b409), .val (.int (1 : Int32)), .unset, .unset, .unset, .unset, .unset] [])) _
            refine XS.iload X417.here hx rfl (hb hby at_133) rfl ?_
            show Steps p.tables e below (T417.setTop (mkF m 135 #[.val (.int p1), .val (.int p2), .val (.int p3), .val (.int p4), .val (.ref x3), .val .null, .val (.ref b409), .val (.int (1 : Int32)), .unset, .unset, .unset, .unset, .unset] [(.int (1 : Int32))])) _
            refine XS.ifNo X417.here hx rfl (hb hby at_135) rfl ((if0 _ _).trans (feq (by decide : ¬ ((1 : Int32) = (0 : Int32)))).1) ?_
            show Steps p.tables e below (T417.setTop (mkF m 138 #[.val (.int p1), .val (.int p2), .val (.int p3), .val (.int p4), .val (.ref x3), .val .null, .val (.ref b409), .val (.int (1 : Int32)), .unset, .unset, .unset, .unset, .unset] [])) _
            refine XS.aconstNull X417.here hx rfl (hb hby at_138) ?_
            show Steps p.tables e below (T417.setTop (mkF m 139 #[.val (.int p1), .val (.int p2), .val (.int p3), .val (.int p4), .val (.ref x3), .val .null, .val (.ref b409), .val (.int (1 : Int32)), .unset, .unset, .unset, .unset, .unset] [.null])) _
            refine XS.goto X417.here hx rfl (pc0 := 139) (pc' := 161) rfl (hb hby at_139) (by decide) (by decide) ?_
            show Steps p.tables e below (T417.setTop (mkF m 161 #[.val (.int p1), .val (.int p2), .val (.int p3), .val (.int p4), .val (.ref x3), .val .null, .val (.ref b409), .val (.int (1 : Int32)), .unset, .unset, .unset, .unset, .unset] [.null])) _
            refine XS.astore X417.here hx rfl (hb hby at_161) rfl rfl (l' := #[.val (.int p1), .val (.int p2), .val (.int p3), .val (.int p4), .val (.ref x3), .val .null, .val (.ref b409), .val (.int (1 : Int32)), .val .null, .unset, .unset, .unset, .unset]) rfl ?_
            show Steps p.tables e below (T417.setTop (mkF m 163 #[.val (.int p1), .val (.int p2), .val (.int p3), .val (.int p4), .val (.ref x3), .val .null, .val (.ref b409), .val (.int (1 : Int32)), .val .null, .unset, .unset, .unset, .unset] [])) _
            refine st575 _ ?_
            show Steps p.tables e below (T575.setTop (mkF m 166 #[.val (.int p1), .val (.int p2), .val (.int p3), .val (.int p4), .val (.ref x3), .val .null, .val (.ref b409), .val (.int (1 : Int32)), .val .null, .unset, .unset, .unset, .unset] [(.ref b575)])) _
            refine XS.dup X575.here hx rfl (hb hby at_166) rfl rfl ?_
            show Steps p.tables e below (T575.setTop (mkF m 167 #[.val (.int p1), .val (.int p2), .val (.int p3), .val (.int p4), .val (.ref x3), .val .null, .val (.ref b409), .val (.int (1 : Int32)), .val .null, .unset, .unset, .unset, .unset] [(.ref b575), (.ref b575)])) _
            refine st576 _ ?_
            show Steps p.tables e below (T576.setTop (mkF m 169 #[.val (.int p1), .val (.int p2), .val (.int p3), .val (.int p4), .val (.ref x3), .val .null, .val (.ref b409), .val (.int (1 : Int32)), .val .null, .unset, .unset, .unset, .unset] [(.ref b576), (.ref b575), (.ref b575)])) _
            refine XS.aload X576.here hx rfl (hb hby at_169) rfl rfl ?_
            show Steps p.tables e below (T576.setTop (mkF m 171 #[.val (.int p1), .val (.int p2), .val (.int p3), .val (.int p4), .val (.ref x3), .val .null, .val (.ref b409), .val (.int (1 : Int32)), .val .null, .unset, .unset, .unset, .unset] [.null, (.ref b576), (.ref b575), (.ref b575)])) _
            refine st577.trans ?_
            show Steps p.tables e below (T577.setTop (mkF m 174 #[.val (.int p1), .val (.int p2), .val (.int p3), .val (.int p4), .val (.ref x3), .val .null, .val (.ref b409), .val (.int (1 : Int32)), .val .null, .unset, .unset, .unset, .unset] [(.ref b575)])) _
            refine XS.astore X577.here hx rfl (hb hby at_174) rfl rfl (l' := #[.val (.int p1), .val (.int p2), .val (.int p3), .val (.int p4), .val (.ref x3), .val .null, .val (.ref b409), .val (.int (1 : Int32)), .val .null, .val (.ref b575), .unset, .unset, .unset]) rfl ?_
            show Steps p.tables e below (T577.setTop (mkF m 176 #[.val (.int p1), .val (.int p2), .val (.int p3), .val (.int p4), .val (.ref x3), .val .null, .val (.ref b409), .val (.int (1 : Int32)), .val .null, .val (.ref b575), .unset, .unset, .unset] [])) _
            refine XS.aload X577.here hx rfl (hb hby at_176) rfl rfl ?_
            show Steps p.tables e below (T577.setTop (mkF m 178 #[.val (.int p1), .val (.int p2), .val (.int p3), .val (.int p4), .val (.ref x3), .val .null, .val (.ref b409), .val (.int (1 : Int32)), .val .null, .val (.ref b575), .unset, .unset, .unset] [(.ref b575)])) _
            refine st585 _ ?_
            show Steps p.tables e below (T585.setTop (mkF m 181 #[.val (.int p1), .val (.int p2), .val (.int p3), .val (.int p4), .val (.ref x3), .val .null, .val (.ref b409), .val (.int (1 : Int32)), .val .null, .val (.ref b575), .unset, .unset, .unset] [(.ref lf0), (.ref b575)])) _
            refine st586.trans ?_
            show Steps p.tables e below (T586.setTop (mkF m 184 #[.val (.int p1), .val (.int p2), .val (.int p3), .val (.int p4), .val (.ref x3), .val .null, .val (.ref b409), .val (.int (1 : Int32)), .val .null, .val (.ref b575), .unset, .unset, .unset] [.null])) _
            refine XS.astore X586.here hx rfl (hb hby at_184) rfl rfl (l' := #[.val (.int p1), .val (.int p2), .val (.int p3), .val (.int p4), .val (.ref x3), .val .null, .val (.ref b409), .val (.int (1 : Int32)), .val .null, .val (.ref b575), .val .null, .unset, .unset]) rfl ?_
            show Steps p.tables e below (T586.setTop (mkF m 186 #[.val (.int p1), .val (.int p2), .val (.int p3), .val (.int p4), .val (.ref x3), .val .null, .val (.ref b409), .val (.int (1 : Int32)), .val .null, .val (.ref b575), .val .null, .unset, .unset] [])) _
            refine XS.aload X586.here hx rfl (hb hby at_186) rfl rfl ?_
            show Steps p.tables e below (T586.setTop (mkF m 188 #[.val (.int p1), .val (.int p2), .val (.int p3), .val (.int p4), .val (.ref x3), .val .null, .val (.ref b409), .val (.int (1 : Int32)), .val .null, .val (.ref b575), .val .null, .unset, .unset] [(.ref b575)])) _
            refine st587 _ ?_
            show Steps p.tables e below (T587.setTop (mkF m 191 #[.val (.int p1), .val (.int p2), .val (.int p3), .val (.int p4), .val (.ref x3), .val .null, .val (.ref b409), .val (.int (1 : Int32)), .val .null, .val (.ref b575), .val .null, .unset, .unset] [(.ref lf1), (.ref b575)])) _
            refine st588.trans ?_
            show Steps p.tables e below (T588.setTop (mkF m 194 #[.val (.int p1), .val (.int p2), .val (.int p3), .val (.int p4), .val (.ref x3), .val .null, .val (.ref b409), .val (.int (1 : Int32)), .val .null, .val (.ref b575), .val .null, .unset, .unset] [.null])) _
            refine XS.astore X588.here hx rfl (hb hby at_194) rfl rfl (l' := #[.val (.int p1), .val (.int p2), .val (.int p3), .val (.int p4), .val (.ref x3), .val .null, .val (.ref b409), .val (.int (1 : Int32)), .val .null, .val (.ref b575), .val .null, .val .null, .unset]) rfl ?_
            show Steps p.tables e below (T588.setTop (mkF m 196 #[.val (.int p1), .val (.int p2), .val (.int p3), .val (.int p4), .val (.ref x3), .val .null, .val (.ref b409), .val (.int (1 : Int32)), .val .null, .val (.ref b575), .val .null, .val .null, .unset] [])) _
            refine XS.aload X588.here hx rfl (hb hby at_196) rfl rfl ?_
            show Steps p.tables e below (T588.setTop (mkF m 198 #[.val (.int p1), .val (.int p2), .val (.int p3), .val (.int p4), .val (.ref x3), .val .null, .val (.ref b409), .val (.int (1 : Int32)), .val .null, .val (.ref b575), .val .null, .val .null, .unset] [(.ref b575)])) _
            refine st589 _ ?_
            show Steps p.tables e below (T589.setTop (mkF m 201 #[.val (.int p1), .val (.int p2), .val (.int p3), .val (.int p4), .val (.ref x3), .val .null, .val (.ref b409), .val (.int (1 : Int32)), .val .null, .val (.ref b575), .val .null, .val .null, .unset] [(.ref lf2), (.ref b575)])) _
            refine st590.trans ?_
            show Steps p.tables e below (T590.setTop (mkF m 204 #[.val (.int p1), .val (.int p2), .val (.int p3), .val (.int p4), .val (.ref x3), .val .null, .val (.ref b409), .val (.int (1 : Int32)), .val .null, .val (.ref b575), .val .null, .val .null, .unset] [.null])) _
            refine XS.astore X590.here hx rfl (hb hby at_204) rfl rfl (l' := #[.val (.int p1), .val (.int p2), .val (.int p3), .val (.int p4), .val (.ref x3), .val .null, .val (.ref b409), .val (.int (1 : Int32)), .val .null, .val (.ref b575), .val .null, .val .null, .val .null]) rfl ?_
            show Steps p.tables e below (T590.setTop (mkF m 206 #[.val (.int p1), .val (.int p2), .val (.int p3), .val (.int p4), .val (.ref x3), .val .null, .val (.ref b409), .val (.int (1 : Int32)), .val .null, .val (.ref b575), .val .null, .val .null, .val .null] [])) _
            refine XS.iload X590.here hx rfl (hb hby at_206) rfl ?_
            show Steps p.tables e below (T590.setTop (mkF m 208 #[.val (.int p1), .val (.int p2), .val (.int p3), .val (.int p4), .val (.ref x3), .val .null, .val (.ref b409), .val (.int (1 : Int32)), .val .null, .val (.ref b575), .val .null, .val .null, .val .null] [(.int (1 : Int32))])) _
            refine XS.ifNo X590.here hx rfl (hb hby at_208) rfl ((if0 _ _).trans (feq (by decide : ¬ ((1 : Int32) = (0 : Int32)))).1) ?_
            show Steps p.tables e below (T590.setTop (mkF m 211 #[.val (.int p1), .val (.int p2), .val (.int p3), .val (.int p4), .val (.ref x3), .val .null, .val (.ref b409), .val (.int (1 : Int32)), .val .null, .val (.ref b575), .val .null, .val .null, .val .null] [])) _
            refine XS.aload X590.here hx rfl (hb hby at_211) rfl rfl ?_
            show Steps p.tables e below (T590.setTop (mkF m 213 #[.val (.int p1), .val (.int p2), .val (.int p3), .val (.int p4), .val (.ref x3), .val .null, .val (.ref b409), .val (.int (1 : Int32)), .val .null, .val (.ref b575), .val .null, .val .null, .val .null] [.null])) _
            refine XS.ifnonnullNo X590.here hx rfl (hb hby at_213) rfl ?_
            show Steps p.tables e below (T590.setTop (mkF m 216 #[.val (.int p1), .val (.int p2), .val (.int p3), .val (.int p4), .val (.ref x3), .val .null, .val (.ref b409), .val (.int (1 : Int32)), .val .null, .val (.ref b575), .val .null, .val .null, .val .null] [])) _
            refine XS.aload X590.here hx rfl (hb hby at_216) rfl rfl ?_
            show Steps p.tables e below (T590.setTop (mkF m 218 #[.val (.int p1), .val (.int p2), .val (.int p3), .val (.int p4), .val (.ref x3), .val .null, .val (.ref b409), .val (.int (1 : Int32)), .val .null, .val (.ref b575), .val .null, .val .null, .val .null] [.null])) _
            refine XS.ifnonnullNo X590.here hx rfl (hb hby at_218) rfl ?_
            show Steps p.tables e below (T590.setTop (mkF m 221 #[.val (.int p1), .val (.int p2), .val (.int p3), .val (.int p4), .val (.ref x3), .val .null, .val (.ref b409), .val (.int (1 : Int32)), .val .null, .val (.ref b575), .val .null, .val .null, .val .null] [])) _
            refine XS.aload X590.here hx rfl (hb hby at_221) rfl rfl ?_
            show Steps p.tables e below (T590.setTop (mkF m 223 #[.val (.int p1), .val (.int p2), .val (.int p3), .val (.int p4), .val (.ref x3), .val .null, .val (.ref b409), .val (.int (1 : Int32)), .val .null, .val (.ref b575), .val .null, .val .null, .val .null] [.null])) _
            refine XS.ifnonnullNo X590.here hx rfl (hb hby at_223) rfl ?_
            show Steps p.tables e below (T590.setTop (mkF m 226 #[.val (.int p1), .val (.int p2), .val (.int p3), .val (.int p4), .val (.ref x3), .val .null, .val (.ref b409), .val (.int (1 : Int32)), .val .null, .val (.ref b575), .val .null, .val .null, .val .null] [])) _
            refine XS.iconst X590.here hx rfl (hb hby at_226) ?_
            show Steps p.tables e below (T590.setTop (mkF m 227 #[.val (.int p1), .val (.int p2), .val (.int p3), .val (.int p4), .val (.ref x3), .val .null, .val (.ref b409), .val (.int (1 : Int32)), .val .null, .val (.ref b575), .val .null, .val .null, .val .null] [(.int (1 : Int32))])) _
            refine XS.goto X590.here hx rfl (pc0 := 227) (pc' := 231) rfl (hb hby at_227) (by decide) (by decide) ?_
            show Steps p.tables e below (T590.setTop (mkF m 231 #[.val (.int p1), .val (.int p2), .val (.int p3), .val (.int p4), .val (.ref x3), .val .null, .val (.ref b409), .val (.int (1 : Int32)), .val .null, .val (.ref b575), .val .null, .val .null, .val .null] [(.int (1 : Int32))])) _
            exact retN X590 hx (t := .boolean) Bd.returns (by simp) (hb hby at_231) hr
          · show Q_rm0 Z p1 p2 p3 p4 cs lf0 lf1 lf2 h0 n0 _ T590.heap _
            rw [H590]
            exact ⟨rfl, N590⟩
      · skip
        have pre592 : ∀ t, Steps p.tables e below (T3.setTop (mkF m 123 #[.val (.int p1), .val (.int p2), .val (.int p3), .val (.int p4), .val (.ref x3), .val .null, .val .null, .unset, .unset, .unset, .unset, .unset, .unset] [(.int (p1 &&& (8 : Int32)))])) t → Steps p.tables e below (s₁.setTop (entryFrame m #[(.int p1), (.int p2), (.int p3), (.int p4)] maxLocals)) t := by
          intro t kt
          refine pre408 _ ?_
          show Steps p.tables e below (T3.setTop (mkF m 67 #[.val (.int p1), .val (.int p2), .val (.int p3), .val (.int p4), .val (.ref x3), .val .null, .unset, .unset, .unset, .unset, .unset, .unset, .unset] [(.int (p1 &&& (4 : Int32)))])) _
          refine XS.ifNo X3.here hx rfl (hb hby at_67) rfl ((if0 _ _).trans (feq hc407).1) ?_
          show Steps p.tables e below (T3.setTop (mkF m 70 #[.val (.int p1), .val (.int p2), .val (.int p3), .val (.int p4), .val (.ref x3), .val .null, .unset, .unset, .unset, .unset, .unset, .unset, .unset] [])) _
          refine XS.aconstNull X3.here hx rfl (hb hby at_70) ?_
          show Steps p.tables e below (T3.setTop (mkF m 71 #[.val (.int p1), .val (.int p2), .val (.int p3), .val (.int p4), .val (.ref x3), .val .null, .unset, .unset, .unset, .unset, .unset, .unset, .unset] [.null])) _
          refine XS.goto X3.here hx rfl (pc0 := 71) (pc' := 117) rfl (hb hby at_71) (by decide) (by decide) ?_
          show Steps p.tables e below (T3.setTop (mkF m 117 #[.val (.int p1), .val (.int p2), .val (.int p3), .val (.int p4), .val (.ref x3), .val .null, .unset, .unset, .unset, .unset, .unset, .unset, .unset] [.null])) _
          refine XS.astore X3.here hx rfl (hb hby at_117) rfl rfl (l' := #[.val (.int p1), .val (.int p2), .val (.int p3), .val (.int p4), .val (.ref x3), .val .null, .val .null, .unset, .unset, .unset, .unset, .unset, .unset]) rfl ?_
          show Steps p.tables e below (T3.setTop (mkF m 119 #[.val (.int p1), .val (.int p2), .val (.int p3), .val (.int p4), .val (.ref x3), .val .null, .val .null, .unset, .unset, .unset, .unset, .unset, .unset] [])) _
          refine XS.iloadN X3.here hx rfl (hb hby at_119) rfl ?_
          show Steps p.tables e below (T3.setTop (mkF m 120 #[.val (.int p1), .val (.int p2), .val (.int p3), .val (.int p4), .val (.ref x3), .val .null, .val .null, .unset, .unset, .unset, .unset, .unset, .unset] [(.int p1)])) _
          refine XS.bipush X3.here hx rfl (hb hby at_120) ?_
          show Steps p.tables e below (T3.setTop (mkF m 122 #[.val (.int p1), .val (.int p2), .val (.int p3), .val (.int p4), .val (.ref x3), .val .null, .val .null, .unset, .unset, .unset, .unset, .unset, .unset] [(.int (8 : Int32)), (.int p1)])) _
          refine XS.iand X3.here hx rfl (hb hby at_122) rfl ?_
          exact kt
        by_cases hc591 : (p1 &&& (8 : Int32)) = (0 : Int32)
        · skip
          obtain ⟨T593, h593, k593, X593, e593, E593, A593, O593, st593⟩ := newR X3 hx hZ hown (tw hw 26 rfl) (tw hw 44 rfl) rfl (g := (mkF m 143 #[.val (.int p1), .val (.int p2), .val (.int p3), .val (.int p4), .val (.ref x3), .val .null, .val .null, .val (.int (0 : Int32)), .unset, .unset, .unset, .unset, .unset] [(.int (3 : Int32))])) rfl (hb hby at_143) rfl (by decide) (cap := 3) (by decide) (by decide) (by decide) (by decide)
          obtain ⟨b593, g593⟩ : ∃ z, z = T3.heap.size := ⟨_, rfl⟩
          rw [← g593] at A593 st593
          have V593 : Arv Z h593 b593 k593 (.object "java/lang/String") (3 : Int32) [.null, .null, .null] .null := (Arv.new A593 (by decide)).pad (pad_rep [] .null 3)
          have lt593 : @LT.lt Nat _ b593 h593.size := V593.lt
          have K593 : Keep T3.heap h593 [] := (Keep.refl _ _).ext E593
          have sz2_K593 := K593.1
          obtain ⟨cl594, Ar594, q594, S594, Nn594, H594, G594⟩ := V593
          have C595 := E3.keep K593
          obtain ⟨T596, h596, X596, e596, W596, st596⟩ := stR X593 hx hZ e593 Ar594 (j := (0 : Int32)) (inb_of S594 ⟨by decide, by decide⟩) rfl (Sto.ofV Ar594 q594 O593 (Ins.self C595)) (g := (mkF m 150 #[.val (.int p1), .val (.int p2), .val (.int p3), .val (.int p4), .val (.ref x3), .val .null, .val .null, .val (.int (0 : Int32)), .unset, .unset, .unset, .unset, .unset] [(.ref x3), (.int (0 : Int32)), (.ref b593), (.ref b593)])) rfl rfl (hb hby at_150)
          have V596 : Arv Z h596 b593 k593 (.object "java/lang/String") (3 : Int32) [(.ref x3), .null, .null] .null := Arv.set Ar594 q594 S594 Nn594 H594 G594 rfl W596 0 rfl (Nat.le_of_ble_eq_true rfl)
          have K596 := Keep.of_wr W596
          have N596 := Fr.snoc X596 N3 (by omega : @LE.le Nat _ n0 b593)
          have sz3_K596 := K596.1
          obtain ⟨cl597, Ar597, q597, S597, Nn597, H597, G597⟩ := V596
          obtain ⟨T598, h598, X598, e598, W598, st598⟩ := stR X596 hx hZ e596 Ar597 (j := (1 : Int32)) (inb_of S597 ⟨by decide, by decide⟩) rfl (Or.inl rfl) (g := (mkF m 155 #[.val (.int p1), .val (.int p2), .val (.int p3), .val (.int p4), .val (.ref x3), .val .null, .val .null, .val (.int (0 : Int32)), .unset, .unset, .unset, .unset, .unset] [.null, (.int (1 : Int32)), (.ref b593), (.ref b593)])) rfl rfl (hb hby at_155)
          have V598 : Arv Z h598 b593 k593 (.object "java/lang/String") (3 : Int32) [(.ref x3), .null, .null] .null := Arv.set Ar597 q597 S597 Nn597 H597 G597 rfl W598 1 rfl (Nat.le_of_ble_eq_true rfl)
          have K598 := Keep.of_wr W598
          have N598 := Fr.snoc X598 N596 (by omega : @LE.le Nat _ n0 b593)
          have sz4_K598 := K598.1
          obtain ⟨cl599, Ar599, q599, S599, Nn599, H599, G599⟩ := V598
          obtain ⟨T600, h600, X600, e600, W600, st600⟩ := stR X598 hx hZ e598 Ar599 (j := (2 : Int32)) (inb_of S599 ⟨by decide, by decide⟩) rfl (Or.inl rfl) (g := (mkF m 160 #[.val (.int p1), .val (.int p2), .val (.int p3), .val (.int p4), .val (.ref x3), .val .null, .val .null, .val (.int (0 : Int32)), .unset, .unset, .unset, .unset, .unset] [.null, (.int (2 : Int32)), (.ref b593), (.ref b593)])) rfl rfl (hb hby at_160)
          have V600 : Arv Z h600 b593 k593 (.object "java/lang/String") (3 : Int32) [(.ref x3), .null, .null] .null := Arv.set Ar599 q599 S599 Nn599 H599 G599 rfl W600 2 rfl (Nat.le_of_ble_eq_true rfl)
          have K600 := Keep.of_wr W600
          have N600 := Fr.snoc X600 N598 (by omega : @LE.le Nat _ n0 b593)
          have sz5_K600 := K600.1
          obtain ⟨T601, h601, X601, e601, E601, A601, D601, -, st601⟩ := newO X600 hx hZ hown (tw hw 45 rfl) (tw hw 46 rfl) (tw hw 47 rfl) e600 (g := (mkF m 163 #[.val (.int p1), .val (.int p2), .val (.int p3), .val (.int p4), .val (.ref x3), .val .null, .val .null, .val (.int (0 : Int32)), .val (.ref b593), .unset, .unset, .unset, .unset] [])) rfl (hb hby at_163) (by decide) (by decide)
          obtain ⟨b601, g601⟩ : ∃ z, z = h600.size := ⟨_, rfl⟩
          rw [← g601] at A601 D601 st601
          have lt601 : @LT.lt Nat _ b601 h601.size := A601.lt
          have K601 : Keep h600 h601 [] := (Keep.refl _ _).ext E601
          have sz6_K601 := K601.1
          have F601_loc : Fld Z h601 b601 "com/example/links_to_sitemap/linkstositemap/SitemapFileWriter$Entry" "loc" "Ljava/lang/String;" .null := D601 (Or.inr (tw hw 56 rfl)) (ty := (.object "java/lang/String")) (by decide)
          have F601_fields : Fld Z h601 b601 "com/example/links_to_sitemap/linkstositemap/SitemapFileWriter$Entry" "fields" "[Ljava/lang/String;" .null := D601 (Or.inr (tw hw 58 rfl)) (ty := (.array (.object "java/lang/String"))) (by decide)
          obtain ⟨b602, T602, h602, k602, X602, e602, E602, hS602, hk602, hZ602, hown602, st602⟩ := ldcS (s := s) (vm0 := s.vm) X601 hx hZ hown (tw hw 48 rfl) wStr e601 hS0 (by omega) (g := (mkF m 167 #[.val (.int p1), .val (.int p2), .val (.int p3), .val (.int p4), .val (.ref x3), .val .null, .val .null, .val (.int (0 : Int32)), .val (.ref b593), .unset, .unset, .unset, .unset] [(.ref b601), (.ref b601)])) rfl (hb hby at_167) (n := 80) (by decide) (by decide) (by decide) (by decide)
          have K602 : Keep h601 h602 [] := (Keep.refl _ _).ext E602
          have sz7_K602 := K602.1
          have C604 := A601.keep K602
          have C605 := F601_loc.keep K602 nin0
          have C606 := F601_fields.keep K602 nin0
          have O607 : Old Z n0 T3.heap := O0.keep K3 all0
          have O608 : Old Z n0 h593 := O607.keep K593 all0
          have O609 : Old Z n0 h596 := O608.keep K596 (allS (by omega) (all0))
          have O610 : Old Z n0 h598 := O609.keep K598 (allS (by omega) (all0))
          have O611 : Old Z n0 h600 := O610.keep K600 (allS (by omega) (all0))
          have O612 : Old Z n0 h601 := O611.keep K601 all0
          have O613 : Old Z n0 h602 := O612.keep K602 all0
          obtain ⟨_, _, ⟨T603, L603, k603, n603⟩, -, X603, ⟨Lc603, hQ603, l603, y603, z603⟩, st603⟩ := X602.specialBack hx (y := (⟨"com/example/links_to_sitemap/linkstositemap/SitemapFileWriter$Entry", "<init>", "(Ljava/lang/String;[Ljava/lang/String;)V"⟩ : MethodName)) rfl hown602 (mvT hZ602 (tw hw 51 rfl)) (mvT hZ602 (tw hw 52 rfl)) (mvT hZ602 (tw hw 53 rfl)) (by decide) (backOf (W := 1) (rmEntryA l Z a0 hw [] b601 b602 b593  h602 n0 O613 (by omega : @LE.le Nat _ n0 b601) C604 C605 C606) hZ602 (tw hw 53 rfl) (tw hw 47 rfl) (by decide) (by decide)) (g := (mkF m 171 #[.val (.int p1), .val (.int p2), .val (.int p3), .val (.int p4), .val (.ref x3), .val .null, .val .null, .val (.int (0 : Int32)), .val (.ref b593), .unset, .unset, .unset, .unset] [(.ref b593), (.ref b602), (.ref b601), (.ref b601)])) rfl (by rw [hml]; rfl) (Steps.refl _) (a := b601) (argsL := [(.ref b602), (.ref b593)]) (rest := [(.ref b601)]) (lenOf pd_10 rfl) rfl (by show 2 * 0 + _ ≤ _; exact Nat.le_of_eq rfl) (hb hby at_171) (fun _ _ => ⟨rfl, e602, (by decide : 6 + 0 ≤ _), (by decide : 94 + 0 ≤ _)⟩)
          dsimp only [Pt.U, Pt.locs, Pt.cells, Pt.slots] at X603 l603 y603 z603 st603 hQ603
          subst l603 y603 z603
          obtain ⟨rfl, N603q, K603, E603, F603⟩ := hQ603
          have sz8_K603 := K603.1
          have N603 := Fr.app N600 N603q
          have O614 : Old Z n0 T603.heap := O613.keep K603 (allS (by omega) (all0))
          obtain ⟨T615, X615, e615, st615⟩ := getS2 X603 hx hZ602 hown602 (host := "") (Or.inl (tw hw 59 rfl)) Via.refl rfl (Sta.ext O614.2 S_0) (g := (mkF m 178 #[.val (.int p1), .val (.int p2), .val (.int p3), .val (.int p4), .val (.ref x3), .val .null, .val .null, .val (.int (0 : Int32)), .val (.ref b593), .val (.ref b601), .unset, .unset, .unset] [(.ref b601)])) rfl (hb hby at_178)
          have C617 := V600.keep K601 nin0
          have C618 := C617.keep K602 nin0
          have C619 := C618.keep K603 (ninS (by omega : @Ne Nat b593 b601) (nin0))
          have C620 := E_0.keep K3
          have C621 := C620.keep K593
          have C622 := C621.keep K596
          have C623 := C622.keep K598
          have C624 := C623.keep K600
          have C625 := C624.keep K601
          have C626 := C625.keep K602
          have C627 := C626.keep K603
          have C628 := F_0.keep K3 nin0
          have C629 := C628.keep K593 nin0
          have C630 := C629.keep K596 (ninS (by omega : @Ne Nat lf0 b593) (nin0))
          have C631 := C630.keep K598 (ninS (by omega : @Ne Nat lf0 b593) (nin0))
          have C632 := C631.keep K600 (ninS (by omega : @Ne Nat lf0 b593) (nin0))
          have C633 := C632.keep K601 nin0
          have C634 := C633.keep K602 nin0
          have C635 := C634.keep K603 (ninS (by omega : @Ne Nat lf0 b601) (nin0))
          obtain ⟨cq616, kq616, q616a, q616b, q616c⟩ := isOf hZ602 e615 E603
          obtain ⟨_, _, ⟨T616, L616, k616, n616⟩, -, X616, ⟨Lc616, hQ616, l616, y616, z616⟩, st616⟩ := X615.virtualBack hx (y := (⟨"com/example/links_to_sitemap/linkstositemap/SitemapFileWriter$Entry", "field", "(Lcom/example/links_to_sitemap/linkstositemap/LinkField;)Ljava/lang/String;"⟩ : MethodName)) (z := (⟨"com/example/links_to_sitemap/linkstositemap/SitemapFileWriter$Entry", "field", "(Lcom/example/links_to_sitemap/linkstositemap/LinkField;)Ljava/lang/String;"⟩ : MethodName)) hown602 (mvT hZ602 (tw hw 62 rfl)) (mvT hZ602 (tw hw 63 rfl)) (notFace_of_selects (args := #[]) (mvT hZ602 (tw hw 65 rfl))) (mvT hZ602 (tw hw 65 rfl)) (mvT hZ602 (tw hw 64 rfl)) (by decide) (backOf (W := 0) (rmFieldA l Z a0 hw [] b601 lf0 b593 k593 [(.ref x3), .null, .null] (.ref x3) (0 : Int32) T603.heap n0 O614 F603 C619 C627 C635 (by decide) (by decide) rfl rfl) hZ602 (tw hw 66 rfl) (tw hw 47 rfl) (by decide) (by decide)) q616a q616c (g := (mkF m 181 #[.val (.int p1), .val (.int p2), .val (.int p3), .val (.int p4), .val (.ref x3), .val .null, .val .null, .val (.int (0 : Int32)), .val (.ref b593), .val (.ref b601), .unset, .unset, .unset] [(.ref lf0), (.ref b601)])) rfl (by rw [hml]; rfl) (Steps.refl _) (argsL := [(.ref lf0)]) (rest := []) (lenOf pd_11 rfl) rfl (by show 2 * 0 + _ ≤ _; exact Nat.le_of_eq rfl) (hb hby at_181) (fun _ _ => ⟨rfl, e615, (by decide : 6 + 0 ≤ _), (by decide : 94 + 0 ≤ _)⟩)
          dsimp only [Pt.U, Pt.locs, Pt.cells, Pt.slots] at X616 l616 y616 z616 st616 hQ616
          subst l616 y616 z616
          obtain ⟨rfl, N616q, H616⟩ := hQ616
          have N616 := Fr.app N603 N616q
          obtain ⟨T636, X636, e636, st636⟩ := getS2 X616 hx hZ602 hown602 (host := "") (Or.inl (tw hw 76 rfl)) Via.refl H616 (Sta.ext O614.2 S_1) (g := (mkF m 188 #[.val (.int p1), .val (.int p2), .val (.int p3), .val (.int p4), .val (.ref x3), .val .null, .val .null, .val (.int (0 : Int32)), .val (.ref b593), .val (.ref b601), .val (.ref x3), .unset, .unset] [(.ref b601)])) rfl (hb hby at_188)
          have C638 := E_1.keep K3
          have C639 := C638.keep K593
          have C640 := C639.keep K596
          have C641 := C640.keep K598
          have C642 := C641.keep K600
          have C643 := C642.keep K601
          have C644 := C643.keep K602
          have C645 := C644.keep K603
          have C646 := F_1.keep K3 nin0
          have C647 := C646.keep K593 nin0
          have C648 := C647.keep K596 (ninS (by omega : @Ne Nat lf1 b593) (nin0))
          have C649 := C648.keep K598 (ninS (by omega : @Ne Nat lf1 b593) (nin0))
          have C650 := C649.keep K600 (ninS (by omega : @Ne Nat lf1 b593) (nin0))
          have C651 := C650.keep K601 nin0
          have C652 := C651.keep K602 nin0
          have C653 := C652.keep K603 (ninS (by omega : @Ne Nat lf1 b601) (nin0))
          obtain ⟨cq637, kq637, q637a, q637b, q637c⟩ := isOf hZ602 e636 E603
          obtain ⟨_, _, ⟨T637, L637, k637, n637⟩, -, X637, ⟨Lc637, hQ637, l637, y637, z637⟩, st637⟩ := X636.virtualBack hx (y := (⟨"com/example/links_to_sitemap/linkstositemap/SitemapFileWriter$Entry", "field", "(Lcom/example/links_to_sitemap/linkstositemap/LinkField;)Ljava/lang/String;"⟩ : MethodName)) (z := (⟨"com/example/links_to_sitemap/linkstositemap/SitemapFileWriter$Entry", "field", "(Lcom/example/links_to_sitemap/linkstositemap/LinkField;)Ljava/lang/String;"⟩ : MethodName)) hown602 (mvT hZ602 (tw hw 62 rfl)) (mvT hZ602 (tw hw 63 rfl)) (notFace_of_selects (args := #[]) (mvT hZ602 (tw hw 65 rfl))) (mvT hZ602 (tw hw 65 rfl)) (mvT hZ602 (tw hw 64 rfl)) (by decide) (backOf (W := 0) (rmFieldA l Z a0 hw [] b601 lf1 b593 k593 [(.ref x3), .null, .null] .null (1 : Int32) T603.heap n0 O614 F603 C619 C645 C653 (by decide) (by decide) rfl rfl) hZ602 (tw hw 66 rfl) (tw hw 47 rfl) (by decide) (by decide)) q637a q637c (g := (mkF m 191 #[.val (.int p1), .val (.int p2), .val (.int p3), .val (.int p4), .val (.ref x3), .val .null, .val .null, .val (.int (0 : Int32)), .val (.ref b593), .val (.ref b601), .val (.ref x3), .unset, .unset] [(.ref lf1), (.ref b601)])) rfl (by rw [hml]; rfl) (Steps.refl _) (argsL := [(.ref lf1)]) (rest := []) (lenOf pd_11 rfl) rfl (by show 2 * 0 + _ ≤ _; exact Nat.le_of_eq rfl) (hb hby at_191) (fun _ _ => ⟨rfl, e636, (by decide : 6 + 0 ≤ _), (by decide : 94 + 0 ≤ _)⟩)
          dsimp only [Pt.U, Pt.locs, Pt.cells, Pt.slots] at X637 l637 y637 z637 st637 hQ637
          subst l637 y637 z637
          obtain ⟨rfl, N637q, H637⟩ := hQ637
          have N637 := Fr.app N616 N637q
          obtain ⟨T654, X654, e654, st654⟩ := getS2 X637 hx hZ602 hown602 (host := "") (Or.inl (tw hw 78 rfl)) Via.refl H637 (Sta.ext O614.2 S_2) (g := (mkF m 198 #[.val (.int p1), .val (.int p2), .val (.int p3), .val (.int p4), .val (.ref x3), .val .null, .val .null, .val (.int (0 : Int32)), .val (.ref b593), .val (.ref b601), .val (.ref x3), .val .null, .unset] [(.ref b601)])) rfl (hb hby at_198)
          have C656 := E_2.keep K3
          have C657 := C656.keep K593
          have C658 := C657.keep K596
          have C659 := C658.keep K598
          have C660 := C659.keep K600
          have C661 := C660.keep K601
          have C662 := C661.keep K602
          have C663 := C662.keep K603
          have C664 := F_2.keep K3 nin0
          have C665 := C664.keep K593 nin0
          have C666 := C665.keep K596 (ninS (by omega : @Ne Nat lf2 b593) (nin0))
          have C667 := C666.keep K598 (ninS (by omega : @Ne Nat lf2 b593) (nin0))
          have C668 := C667.keep K600 (ninS (by omega : @Ne Nat lf2 b593) (nin0))
          have C669 := C668.keep K601 nin0
          have C670 := C669.keep K602 nin0
          have C671 := C670.keep K603 (ninS (by omega : @Ne Nat lf2 b601) (nin0))
          obtain ⟨cq655, kq655, q655a, q655b, q655c⟩ := isOf hZ602 e654 E603
          obtain ⟨_, _, ⟨T655, L655, k655, n655⟩, -, X655, ⟨Lc655, hQ655, l655, y655, z655⟩, st655⟩ := X654.virtualBack hx (y := (⟨"com/example/links_to_sitemap/linkstositemap/SitemapFileWriter$Entry", "field", "(Lcom/example/links_to_sitemap/linkstositemap/LinkField;)Ljava/lang/String;"⟩ : MethodName)) (z := (⟨"com/example/links_to_sitemap/linkstositemap/SitemapFileWriter$Entry", "field", "(Lcom/example/links_to_sitemap/linkstositemap/LinkField;)Ljava/lang/String;"⟩ : MethodName)) hown602 (mvT hZ602 (tw hw 62 rfl)) (mvT hZ602 (tw hw 63 rfl)) (notFace_of_selects (args := #[]) (mvT hZ602 (tw hw 65 rfl))) (mvT hZ602 (tw hw 65 rfl)) (mvT hZ602 (tw hw 64 rfl)) (by decide) (backOf (W := 0) (rmFieldA l Z a0 hw [] b601 lf2 b593 k593 [(.ref x3), .null, .null] .null (2 : Int32) T603.heap n0 O614 F603 C619 C663 C671 (by decide) (by decide) rfl rfl) hZ602 (tw hw 66 rfl) (tw hw 47 rfl) (by decide) (by decide)) q655a q655c (g := (mkF m 201 #[.val (.int p1), .val (.int p2), .val (.int p3), .val (.int p4), .val (.ref x3), .val .null, .val .null, .val (.int (0 : Int32)), .val (.ref b593), .val (.ref b601), .val (.ref x3), .val .null, .unset] [(.ref lf2), (.ref b601)])) rfl (by rw [hml]; rfl) (Steps.refl _) (argsL := [(.ref lf2)]) (rest := []) (lenOf pd_11 rfl) rfl (by show 2 * 0 + _ ≤ _; exact Nat.le_of_eq rfl) (hb hby at_201) (fun _ _ => ⟨rfl, e654, (by decide : 6 + 0 ≤ _), (by decide : 94 + 0 ≤ _)⟩)
          dsimp only [Pt.U, Pt.locs, Pt.cells, Pt.slots] at X655 l655 y655 z655 st655 hQ655
          subst l655 y655 z655
          obtain ⟨rfl, N655q, H655⟩ := hQ655
          have N655 := Fr.app N637 N655q
          have C673 := C595.keep K596
          have C674 := C673.keep K598
          have C675 := C674.keep K600
          have C676 := C675.keep K601
          have C677 := C676.keep K602
          have C678 := C677.keep K603
          obtain ⟨_, _, ⟨T672, L672, k672, n672⟩, -, X672, ⟨Lc672, hQ672, l672, y672, z672⟩, st672⟩ := Jvm.LawKit.callS X655 hx (y := (⟨"com/example/links_to_sitemap/linkstositemap/EntryFieldPinLaw", "same", "(Ljava/lang/String;Ljava/lang/String;)Z"⟩ : MethodName)) hown602 (mvT hZ602 (tw hw 80 rfl)) (mvT hZ602 (tw hw 81 rfl)) (mvT hZ602 (tw hw 82 rfl)) (mvT hZ602 (tw hw 83 rfl)) (by decide) (backOf (W := 0) (rmSameX l Z a0 hw [] x3  T603.heap n0 O614 C678) hZ602 (tw hw 83 rfl) (tw hw 82 rfl) (by decide) (by decide)) (g := (mkF m 236 #[.val (.int p1), .val (.int p2), .val (.int p3), .val (.int p4), .val (.ref x3), .val .null, .val .null, .val (.int (0 : Int32)), .val (.ref b593), .val (.ref b601), .val (.ref x3), .val .null, .val .null] [(.ref x3), (.ref x3)])) rfl (by rw [hml]; rfl) (argsL := [(.ref x3), (.ref x3)]) (rest := []) (lenOf pd_13 rfl) rfl (by show 2 * 0 + _ ≤ _; exact Nat.le_of_eq rfl) (hb hby at_236) (fun _ _ => ⟨rfl, H655, (by decide : 6 + 0 ≤ _), (by decide : 94 + 0 ≤ _)⟩)
          dsimp only [Pt.U, Pt.locs, Pt.cells, Pt.slots] at X672 l672 y672 z672 st672 hQ672
          subst l672 y672 z672
          obtain ⟨rfl, N672q, H672⟩ := hQ672
          have N672 := Fr.app N655 N672q
          obtain ⟨_, _, ⟨T679, L679, k679, n679⟩, -, X679, ⟨Lc679, hQ679, l679, y679, z679⟩, st679⟩ := Jvm.LawKit.callS X672 hx (y := (⟨"com/example/links_to_sitemap/linkstositemap/EntryFieldPinLaw", "same", "(Ljava/lang/String;Ljava/lang/String;)Z"⟩ : MethodName)) hown602 (mvT hZ602 (tw hw 80 rfl)) (mvT hZ602 (tw hw 81 rfl)) (mvT hZ602 (tw hw 82 rfl)) (mvT hZ602 (tw hw 83 rfl)) (by decide) (backOf (W := 0) (rmSameN l Z a0 hw []   T603.heap n0 O614 ) hZ602 (tw hw 83 rfl) (tw hw 82 rfl) (by decide) (by decide)) (g := (mkF m 246 #[.val (.int p1), .val (.int p2), .val (.int p3), .val (.int p4), .val (.ref x3), .val .null, .val .null, .val (.int (0 : Int32)), .val (.ref b593), .val (.ref b601), .val (.ref x3), .val .null, .val .null] [.null, .null])) rfl (by rw [hml]; rfl) (argsL := [.null, .null]) (rest := []) (lenOf pd_13 rfl) rfl (by show 2 * 0 + _ ≤ _; exact Nat.le_of_eq rfl) (hb hby at_246) (fun _ _ => ⟨rfl, H672, (by decide : 6 + 0 ≤ _), (by decide : 94 + 0 ≤ _)⟩)
          dsimp only [Pt.U, Pt.locs, Pt.cells, Pt.slots] at X679 l679 y679 z679 st679 hQ679
          subst l679 y679 z679
          obtain ⟨rfl, N679q, H679⟩ := hQ679
          have N679 := Fr.app N672 N679q
          obtain ⟨_, _, ⟨T680, L680, k680, n680⟩, -, X680, ⟨Lc680, hQ680, l680, y680, z680⟩, st680⟩ := Jvm.LawKit.callS X679 hx (y := (⟨"com/example/links_to_sitemap/linkstositemap/EntryFieldPinLaw", "same", "(Ljava/lang/String;Ljava/lang/String;)Z"⟩ : MethodName)) hown602 (mvT hZ602 (tw hw 80 rfl)) (mvT hZ602 (tw hw 81 rfl)) (mvT hZ602 (tw hw 82 rfl)) (mvT hZ602 (tw hw 83 rfl)) (by decide) (backOf (W := 0) (rmSameN l Z a0 hw []   T603.heap n0 O614 ) hZ602 (tw hw 83 rfl) (tw hw 82 rfl) (by decide) (by decide)) (g := (mkF m 256 #[.val (.int p1), .val (.int p2), .val (.int p3), .val (.int p4), .val (.ref x3), .val .null, .val .null, .val (.int (0 : Int32)), .val (.ref b593), .val (.ref b601), .val (.ref x3), .val .null, .val .null] [.null, .null])) rfl (by rw [hml]; rfl) (argsL := [.null, .null]) (rest := []) (lenOf pd_13 rfl) rfl (by show 2 * 0 + _ ≤ _; exact Nat.le_of_eq rfl) (hb hby at_256) (fun _ _ => ⟨rfl, H679, (by decide : 6 + 0 ≤ _), (by decide : 94 + 0 ≤ _)⟩)
          dsimp only [Pt.U, Pt.locs, Pt.cells, Pt.slots] at X680 l680 y680 z680 st680 hQ680
          subst l680 y680 z680
          obtain ⟨rfl, N680q, H680⟩ := hQ680
          have N680 := Fr.app N679 N680q
          obtain ⟨fs, hr, hrun, hended, eR, eW, eI, eS⟩ := Stand.leaveW (s := s) (vm₁ := T602.vm) X680 hS602 (by rw [H680]; omega) (v := some (.int (1 : Int32))) (fun h => by rw [Bd.returns] at h; cases h)
          refine ⟨_, _, pre592 _ ?_, hrun, hended, _, _, rfl, ?_, eR, eW, eI, eS.mono (by decide) (by decide)⟩
          · skip
            show Steps p.tables e below (T3.setTop (mkF m 123 #[.val (.int p1), .val (.int p2), .val (.int p3), .val (.int p4), .val (.ref x3), .val .null, .val .null, .unset, .unset, .unset, .unset, .unset, .unset] [(.int (p1 &&& (8 : Int32)))])) _
            refine XS.ifYes X3.here hx rfl (pc0 := 123) (pc' := 130) rfl (hb hby at_123) rfl ((if0 _ _).trans (teq hc591).1) (by decide) (by decide) ?_
            show Steps p.tables e below (T3.setTop (mkF m 130 #[.val (.int p1), .val (.int p2), .val (.int p3), .val (.int p4), .val (.ref x3), .val .null, .val .null, .unset, .unset, .unset, .unset, .unset, .unset] [])) _
            refine XS.iconst X3.here hx rfl (hb hby at_130) ?_
            show Steps p.tables e below (T3.setTop (mkF m 131 #[.val (.int p1), .val (.int p2), .val (.int p3), .val (.int p4), .val (.ref x3), .val .null, .val .null, .unset, .unset, .unset, .unset, .unset, .unset] [(.int (0 : Int32))])) _
            refine XS.istore X3.here hx rfl (hb hby at_131) rfl (l' := #[.val (.int p1), .val (.int p2), .val (.int p3), .val (.int p4), .val (.ref x3), .val .null, .val .null, .val (.int (0 : Int32)), .unset, .unset, .unset, .unset, .unset]) rfl ?_
            show Steps p.tables e below (T3.setTop (mkF m 133 #[.val (.int p1), .val (.int p2), .val (.int p3), .val (.int p4), .val (.ref x3), .val .null, .val .null, .val (.int (0 : Int32)), .unset, .unset, .unset, .unset, .unset] [])) _
            refine XS.iload X3.here hx rfl (hb hby at_133) rfl ?_
            show Steps p.tables e below (T3.setTop (mkF m 135 #[.val (.int p1), .val (.int p2), .val (.int p3), .val (.int p4), .val (.ref x3), .val .null, .val .null, .val (.int (0 : Int32)), .unset, .unset, .unset, .unset, .unset] [(.int (0 : Int32))])) _
            refine XS.ifYes X3.here hx rfl (pc0 := 135) (pc' := 142) rfl (hb hby at_135) rfl ((if0 _ _).trans (teq (by decide : (0 : Int32) = (0 : Int32))).1) (by decide) (by decide) ?_
            show Steps p.tables e below (T3.setTop (mkF m 142 #[.val (.int p1), .val (.int p2), .val (.int p3), .val (.int p4), .val (.ref x3), .val .null, .val .null, .val (.int (0 : Int32)), .unset, .unset, .unset, .unset, .unset] [])) _
            refine XS.iconst X3.here hx rfl (hb hby at_142) ?_
            show Steps p.tables e below (T3.setTop (mkF m 143 #[.val (.int p1), .val (.int p2), .val (.int p3), .val (.int p4), .val (.ref x3), .val .null, .val .null, .val (.int (0 : Int32)), .unset, .unset, .unset, .unset, .unset] [(.int (3 : Int32))])) _
            refine st593 _ ?_
            show Steps p.tables e below (T593.setTop (mkF m 146 #[.val (.int p1), .val (.int p2), .val (.int p3), .val (.int p4), .val (.ref x3), .val .null, .val .null, .val (.int (0 : Int32)), .unset, .unset, .unset, .unset, .unset] [(.ref b593)])) _
            refine XS.dup X593.here hx rfl (hb hby at_146) rfl rfl ?_
            show Steps p.tables e below (T593.setTop (mkF m 147 #[.val (.int p1), .val (.int p2), .val (.int p3), .val (.int p4), .val (.ref x3), .val .null, .val .null, .val (.int (0 : Int32)), .unset, .unset, .unset, .unset, .unset] [(.ref b593), (.ref b593)])) _
            refine XS.iconst X593.here hx rfl (hb hby at_147) ?_
            show Steps p.tables e below (T593.setTop (mkF m 148 #[.val (.int p1), .val (.int p2), .val (.int p3), .val (.int p4), .val (.ref x3), .val .null, .val .null, .val (.int (0 : Int32)), .unset, .unset, .unset, .unset, .unset] [(.int (0 : Int32)), (.ref b593), (.ref b593)])) _
            refine XS.aload X593.here hx rfl (hb hby at_148) rfl rfl ?_
            show Steps p.tables e below (T593.setTop (mkF m 150 #[.val (.int p1), .val (.int p2), .val (.int p3), .val (.int p4), .val (.ref x3), .val .null, .val .null, .val (.int (0 : Int32)), .unset, .unset, .unset, .unset, .unset] [(.ref x3), (.int (0 : Int32)), (.ref b593), (.ref b593)])) _
            refine st596 _ ?_
            show Steps p.tables e below (T596.setTop (mkF m 151 #[.val (.int p1), .val (.int p2), .val (.int p3), .val (.int p4), .val (.ref x3), .val .null, .val .null, .val (.int (0 : Int32)), .unset, .unset, .unset, .unset, .unset] [(.ref b593)])) _
            refine XS.dup X596.here hx rfl (hb hby at_151) rfl rfl ?_
            show Steps p.tables e below (T596.setTop (mkF m 152 #[.val (.int p1), .val (.int p2), .val (.int p3), .val (.int p4), .val (.ref x3), .val .null, .val .null, .val (.int (0 : Int32)), .unset, .unset, .unset, .unset, .unset] [(.ref b593), (.ref b593)])) _
            refine XS.iconst X596.here hx rfl (hb hby at_152) ?_
            show Steps p.tables e below (T596.setTop (mkF m 153 #[.val (.int p1), .val (.int p2), .val (.int p3), .val (.int p4), .val (.ref x3), .val .null, .val .null, .val (.int (0 : Int32)), .unset, .unset, .unset, .unset, .unset] [(.int (1 : Int32)), (.ref b593), (.ref b593)])) _
            refine XS.aload X596.here hx rfl (hb hby at_153) rfl rfl ?_
            show Steps p.tables e below (T596.setTop (mkF m 155 #[.val (.int p1), .val (.int p2), .val (.int p3), .val (.int p4), .val (.ref x3), .val .null, .val .null, .val (.int (0 : Int32)), .unset, .unset, .unset, .unset, .unset] [.null, (.int (1 : Int32)), (.ref b593), (.ref b593)])) _
            refine st598 _ ?_
            show Steps p.tables e below (T598.setTop (mkF m 156 #[.val (.int p1), .val (.int p2), .val (.int p3), .val (.int p4), .val (.ref x3), .val .null, .val .null, .val (.int (0 : Int32)), .unset, .unset, .unset, .unset, .unset] [(.ref b593)])) _
            refine XS.dup X598.here hx rfl (hb hby at_156) rfl rfl ?_
            show Steps p.tables e below (T598.setTop (mkF m 157 #[.val (.int p1), .val (.int p2), .val (.int p3), .val (.int p4), .val (.ref x3), .val .null, .val .null, .val (.int (0 : Int32)), .unset, .unset, .unset, .unset, .unset] [(.ref b593), (.ref b593)])) _
            refine XS.iconst X598.here hx rfl (hb hby at_157) ?_
            show Steps p.tables e below (T598.setTop (mkF m 158 #[.val (.int p1), .val (.int p2), .val (.int p3), .val (.int p4), .val (.ref x3), .val .null, .val .null, .val (.int (0 : Int32)), .unset, .unset, .unset, .unset, .unset] [(.int (2 : Int32)), (.ref b593), (.ref b593)])) _
            refine XS.aload X598.here hx rfl (hb hby at_158) rfl rfl ?_
            show Steps p.tables e below (T598.setTop (mkF m 160 #[.val (.int p1), .val (.int p2), .val (.int p3), .val (.int p4), .val (.ref x3), .val .null, .val .null, .val (.int (0 : Int32)), .unset, .unset, .unset, .unset, .unset] [.null, (.int (2 : Int32)), (.ref b593), (.ref b593)])) _
            refine st600 _ ?_
            show Steps p.tables e below (T600.setTop (mkF m 161 #[.val (.int p1), .val (.int p2), .val (.int p3), .val (.int p4), .val (.ref x3), .val .null, .val .null, .val (.int (0 : Int32)), .unset, .unset, .unset, .unset, .unset] [(.ref b593)])) _
            refine XS.astore X600.here hx rfl (hb hby at_161) rfl rfl (l' := #[.val (.int p1), .val (.int p2), .val (.int p3), .val (.int p4), .val (.ref x3), .val .null, .val .null, .val (.int (0 : Int32)), .val (.ref b593), .unset, .unset, .unset, .unset]) rfl ?_
            show Steps p.tables e below (T600.setTop (mkF m 163 #[.val (.int p1), .val (.int p2), .val (.int p3), .val (.int p4), .val (.ref x3), .val .null, .val .null, .val (.int (0 : Int32)), .val (.ref b593), .unset, .unset, .unset, .unset] [])) _
            refine st601 _ ?_
            show Steps p.tables e below (T601.setTop (mkF m 166 #[.val (.int p1), .val (.int p2), .val (.int p3), .val (.int p4), .val (.ref x3), .val .null, .val .null, .val (.int (0 : Int32)), .val (.ref b593), .unset, .unset, .unset, .unset] [(.ref b601)])) _
            refine XS.dup X601.here hx rfl (hb hby at_166) rfl rfl ?_
            show Steps p.tables e below (T601.setTop (mkF m 167 #[.val (.int p1), .val (.int p2), .val (.int p3), .val (.int p4), .val (.ref x3), .val .null, .val .null, .val (.int (0 : Int32)), .val (.ref b593), .unset, .unset, .unset, .unset] [(.ref b601), (.ref b601)])) _
            refine st602 _ ?_
            show Steps p.tables e below (T602.setTop (mkF m 169 #[.val (.int p1), .val (.int p2), .val (.int p3), .val (.int p4), .val (.ref x3), .val .null, .val .null, .val (.int (0 : Int32)), .val (.ref b593), .unset, .unset, .unset, .unset] [(.ref b602), (.ref b601), (.ref b601)])) _
            refine XS.aload X602.here hx rfl (hb hby at_169) rfl rfl ?_
            show Steps p.tables e below (T602.setTop (mkF m 171 #[.val (.int p1), .val (.int p2), .val (.int p3), .val (.int p4), .val (.ref x3), .val .null, .val .null, .val (.int (0 : Int32)), .val (.ref b593), .unset, .unset, .unset, .unset] [(.ref b593), (.ref b602), (.ref b601), (.ref b601)])) _
            refine st603.trans ?_
            show Steps p.tables e below (T603.setTop (mkF m 174 #[.val (.int p1), .val (.int p2), .val (.int p3), .val (.int p4), .val (.ref x3), .val .null, .val .null, .val (.int (0 : Int32)), .val (.ref b593), .unset, .unset, .unset, .unset] [(.ref b601)])) _
            refine XS.astore X603.here hx rfl (hb hby at_174) rfl rfl (l' := #[.val (.int p1), .val (.int p2), .val (.int p3), .val (.int p4), .val (.ref x3), .val .null, .val .null, .val (.int (0 : Int32)), .val (.ref b593), .val (.ref b601), .unset, .unset, .unset]) rfl ?_
            show Steps p.tables e below (T603.setTop (mkF m 176 #[.val (.int p1), .val (.int p2), .val (.int p3), .val (.int p4), .val (.ref x3), .val .null, .val .null, .val (.int (0 : Int32)), .val (.ref b593), .val (.ref b601), .unset, .unset, .unset] [])) _
            refine XS.aload X603.here hx rfl (hb hby at_176) rfl rfl ?_
            show Steps p.tables e below (T603.setTop (mkF m 178 #[.val (.int p1), .val (.int p2), .val (.int p3), .val (.int p4), .val (.ref x3), .val .null, .val .null, .val (.int (0 : Int32)), .val (.ref b593), .val (.ref b601), .unset, .unset, .unset] [(.ref b601)])) _
            refine st615 _ ?_
            show Steps p.tables e below (T615.setTop (mkF m 181 #[.val (.int p1), .val (.int p2), .val (.int p3), .val (.int p4), .val (.ref x3), .val .null, .val .null, .val (.int (0 : Int32)), .val (.ref b593), .val (.ref b601), .unset, .unset, .unset] [(.ref lf0), (.ref b601)])) _
            refine st616.trans ?_
            show Steps p.tables e below (T616.setTop (mkF m 184 #[.val (.int p1), .val (.int p2), .val (.int p3), .val (.int p4), .val (.ref x3), .val .null, .val .null, .val (.int (0 : Int32)), .val (.ref b593), .val (.ref b601), .unset, .unset, .unset] [(.ref x3)])) _
            refine XS.astore X616.here hx rfl (hb hby at_184) rfl rfl (l' := #[.val (.int p1), .val (.int p2), .val (.int p3), .val (.int p4), .val (.ref x3), .val .null, .val .null, .val (.int (0 : Int32)), .val (.ref b593), .val (.ref b601), .val (.ref x3), .unset, .unset]) rfl ?_
            show Steps p.tables e below (T616.setTop (mkF m 186 #[.val (.int p1), .val (.int p2), .val (.int p3), .val (.int p4), .val (.ref x3), .val .null, .val .null, .val (.int (0 : Int32)), .val (.ref b593), .val (.ref b601), .val (.ref x3), .unset, .unset] [])) _
            refine XS.aload X616.here hx rfl (hb hby at_186) rfl rfl ?_
            show Steps p.tables e below (T616.setTop (mkF m 188 #[.val (.int p1), .val (.int p2), .val (.int p3), .val (.int p4), .val (.ref x3), .val .null, .val .null, .val (.int (0 : Int32)), .val (.ref b593), .val (.ref b601), .val (.ref x3), .unset, .unset] [(.ref b601)])) _
            refine st636 _ ?_
            show Steps p.tables e below (T636.setTop (mkF m 191 #[.val (.int p1), .val (.int p2), .val (.int p3), .val (.int p4), .val (.ref x3), .val .null, .val .null, .val (.int (0 : Int32)), .val (.ref b593), .val (.ref b601), .val (.ref x3), .unset, .unset] [(.ref lf1), (.ref b601)])) _
            refine st637.trans ?_
            show Steps p.tables e below (T637.setTop (mkF m 194 #[.val (.int p1), .val (.int p2), .val (.int p3), .val (.int p4), .val (.ref x3), .val .null, .val .null, .val (.int (0 : Int32)), .val (.ref b593), .val (.ref b601), .val (.ref x3), .unset, .unset] [.null])) _
            refine XS.astore X637.here hx rfl (hb hby at_194) rfl rfl (l' := #[.val (.int p1), .val (.int p2), .val (.int p3), .val (.int p4), .val (.ref x3), .val .null, .val .null, .val (.int (0 : Int32)), .val (.ref b593), .val (.ref b601), .val (.ref x3), .val .null, .unset]) rfl ?_
            show Steps p.tables e below (T637.setTop (mkF m 196 #[.val (.int p1), .val (.int p2), .val (.int p3), .val (.int p4), .val (.ref x3), .val .null, .val .null, .val (.int (0 : Int32)), .val (.ref b593), .val (.ref b601), .val (.ref x3), .val .null, .unset] [])) _
            refine XS.aload X637.here hx rfl (hb hby at_196) rfl rfl ?_
            show Steps p.tables e below (T637.setTop (mkF m 198 #[.val (.int p1), .val (.int p2), .val (.int p3), .val (.int p4), .val (.ref x3), .val .null, .val .null, .val (.int (0 : Int32)), .val (.ref b593), .val (.ref b601), .val (.ref x3), .val .null, .unset] [(.ref b601)])) _
            refine st654 _ ?_
            show Steps p.tables e below (T654.setTop (mkF m 201 #[.val (.int p1), .val (.int p2), .val (.int p3), .val (.int p4), .val (.ref x3), .val .null, .val .null, .val (.int (0 : Int32)), .val (.ref b593), .val (.ref b601), .val (.ref x3), .val .null, .unset] [(.ref lf2), (.ref b601)])) _
            refine st655.trans ?_
            show Steps p.tables e below (T655.setTop (mkF m 204 #[.val (.int p1), .val (.int p2), .val (.int p3), .val (.int p4), .val (.ref x3), .val .null, .val .null, .val (.int (0 : Int32)), .val (.ref b593), .val (.ref b601), .val (.ref x3), .val .null, .unset] [.null])) _
            refine XS.astore X655.here hx rfl (hb hby at_204) rfl rfl (l' := #[.val (.int p1), .val (.int p2), .val (.int p3), .val (.int p4), .val (.ref x3), .val .null, .val .null, .val (.int (0 : Int32)), .val (.ref b593), .val (.ref b601), .val (.ref x3), .val .null, .val .null]) rfl ?_
            show Steps p.tables e below (T655.setTop (mkF m 206 #[.val (.int p1), .val (.int p2), .val (.int p3), .val (.int p4), .val (.ref x3), .val .null, .val .null, .val (.int (0 : Int32)), .val (.ref b593), .val (.ref b601), .val (.ref x3), .val .null, .val .null] [])) _
            refine XS.iload X655.here hx rfl (hb hby at_206) rfl ?_
            show Steps p.tables e below (T655.setTop (mkF m 208 #[.val (.int p1), .val (.int p2), .val (.int p3), .val (.int p4), .val (.ref x3), .val .null, .val .null, .val (.int (0 : Int32)), .val (.ref b593), .val (.ref b601), .val (.ref x3), .val .null, .val .null] [(.int (0 : Int32))])) _
            refine XS.ifYes X655.here hx rfl (pc0 := 208) (pc' := 232) rfl (hb hby at_208) rfl ((if0 _ _).trans (teq (by decide : (0 : Int32) = (0 : Int32))).1) (by decide) (by decide) ?_
            show Steps p.tables e below (T655.setTop (mkF m 232 #[.val (.int p1), .val (.int p2), .val (.int p3), .val (.int p4), .val (.ref x3), .val .null, .val .null, .val (.int (0 : Int32)), .val (.ref b593), .val (.ref b601), .val (.ref x3), .val .null, .val .null] [])) _
            refine XS.aload X655.here hx rfl (hb hby at_232) rfl rfl ?_
            show Steps p.tables e below (T655.setTop (mkF m 234 #[.val (.int p1), .val (.int p2), .val (.int p3), .val (.int p4), .val (.ref x3), .val .null, .val .null, .val (.int (0 : Int32)), .val (.ref b593), .val (.ref b601), .val (.ref x3), .val .null, .val .null] [(.ref x3)])) _
            refine XS.aload X655.here hx rfl (hb hby at_234) rfl rfl ?_
            show Steps p.tables e below (T655.setTop (mkF m 236 #[.val (.int p1), .val (.int p2), .val (.int p3), .val (.int p4), .val (.ref x3), .val .null, .val .null, .val (.int (0 : Int32)), .val (.ref b593), .val (.ref b601), .val (.ref x3), .val .null, .val .null] [(.ref x3), (.ref x3)])) _
            refine st672 _ ?_
            show Steps p.tables e below (T672.setTop (mkF m 239 #[.val (.int p1), .val (.int p2), .val (.int p3), .val (.int p4), .val (.ref x3), .val .null, .val .null, .val (.int (0 : Int32)), .val (.ref b593), .val (.ref b601), .val (.ref x3), .val .null, .val .null] [(.int (1 : Int32))])) _
            refine XS.ifNo X672.here hx rfl (hb hby at_239) rfl ((if0 _ _).trans (feq (by decide : ¬ ((1 : Int32) = (0 : Int32)))).1) ?_
            show Steps p.tables e below (T672.setTop (mkF m 242 #[.val (.int p1), .val (.int p2), .val (.int p3), .val (.int p4), .val (.ref x3), .val .null, .val .null, .val (.int (0 : Int32)), .val (.ref b593), .val (.ref b601), .val (.ref x3), .val .null, .val .null] [])) _
            refine XS.aload X672.here hx rfl (hb hby at_242) rfl rfl ?_
            show Steps p.tables e below (T672.setTop (mkF m 244 #[.val (.int p1), .val (.int p2), .val (.int p3), .val (.int p4), .val (.ref x3), .val .null, .val .null, .val (.int (0 : Int32)), .val (.ref b593), .val (.ref b601), .val (.ref x3), .val .null, .val .null] [.null])) _
            refine XS.aload X672.here hx rfl (hb hby at_244) rfl rfl ?_
            show Steps p.tables e below (T672.setTop (mkF m 246 #[.val (.int p1), .val (.int p2), .val (.int p3), .val (.int p4), .val (.ref x3), .val .null, .val .null, .val (.int (0 : Int32)), .val (.ref b593), .val (.ref b601), .val (.ref x3), .val .null, .val .null] [.null, .null])) _
            refine st679 _ ?_
            show Steps p.tables e below (T679.setTop (mkF m 249 #[.val (.int p1), .val (.int p2), .val (.int p3), .val (.int p4), .val (.ref x3), .val .null, .val .null, .val (.int (0 : Int32)), .val (.ref b593), .val (.ref b601), .val (.ref x3), .val .null, .val .null] [(.int (1 : Int32))])) _
            refine XS.ifNo X679.here hx rfl (hb hby at_249) rfl ((if0 _ _).trans (feq (by decide : ¬ ((1 : Int32) = (0 : Int32)))).1) ?_
            show Steps p.tables e below (T679.setTop (mkF m 252 #[.val (.int p1), .val (.int p2), .val (.int p3), .val (.int p4), .val (.ref x3), .val .null, .val .null, .val (.int (0 : Int32)), .val (.ref b593), .val (.ref b601), .val (.ref x3), .val .null, .val .null] [])) _
            refine XS.aload X679.here hx rfl (hb hby at_252) rfl rfl ?_
            show Steps p.tables e below (T679.setTop (mkF m 254 #[.val (.int p1), .val (.int p2), .val (.int p3), .val (.int p4), .val (.ref x3), .val .null, .val .null, .val (.int (0 : Int32)), .val (.ref b593), .val (.ref b601), .val (.ref x3), .val .null, .val .null] [.null])) _
            refine XS.aload X679.here hx rfl (hb hby at_254) rfl rfl ?_
            show Steps p.tables e below (T679.setTop (mkF m 256 #[.val (.int p1), .val (.int p2), .val (.int p3), .val (.int p4), .val (.ref x3), .val .null, .val .null, .val (.int (0 : Int32)), .val (.ref b593), .val (.ref b601), .val (.ref x3), .val .null, .val .null] [.null, .null])) _
            refine st680 _ ?_
            show Steps p.tables e below (T680.setTop (mkF m 259 #[.val (.int p1), .val (.int p2), .val (.int p3), .val (.int p4), .val (.ref x3), .val .null, .val .null, .val (.int (0 : Int32)), .val (.ref b593), .val (.ref b601), .val (.ref x3), .val .null, .val .null] [(.int (1 : Int32))])) _
            refine XS.ifNo X680.here hx rfl (hb hby at_259) rfl ((if0 _ _).trans (feq (by decide : ¬ ((1 : Int32) = (0 : Int32)))).1) ?_
            show Steps p.tables e below (T680.setTop (mkF m 262 #[.val (.int p1), .val (.int p2), .val (.int p3), .val (.int p4), .val (.ref x3), .val .null, .val .null, .val (.int (0 : Int32)), .val (.ref b593), .val (.ref b601), .val (.ref x3), .val .null, .val .null] [])) _
            refine XS.iconst X680.here hx rfl (hb hby at_262) ?_
            show Steps p.tables e below (T680.setTop (mkF m 263 #[.val (.int p1), .val (.int p2), .val (.int p3), .val (.int p4), .val (.ref x3), .val .null, .val .null, .val (.int (0 : Int32)), .val (.ref b593), .val (.ref b601), .val (.ref x3), .val .null, .val .null] [(.int (1 : Int32))])) _
            refine XS.goto X680.here hx rfl (pc0 := 263) (pc' := 267) rfl (hb hby at_263) (by decide) (by decide) ?_
            show Steps p.tables e below (T680.setTop (mkF m 267 #[.val (.int p1), .val (.int p2), .val (.int p3), .val (.int p4), .val (.ref x3), .val .null, .val .null, .val (.int (0 : Int32)), .val (.ref b593), .val (.ref b601), .val (.ref x3), .val .null, .val .null] [(.int (1 : Int32))])) _
            exact retN X680 hx (t := .boolean) Bd.returns (by simp) (hb hby at_267) hr
          · show Q_rm0 Z p1 p2 p3 p4 cs lf0 lf1 lf2 h0 n0 _ T680.heap _
            rw [H680]
            exact ⟨rfl, N680⟩
        · skip
          obtain ⟨T681, h681, X681, e681, E681, A681, D681, -, st681⟩ := newO X3 hx hZ hown (tw hw 45 rfl) (tw hw 46 rfl) (tw hw 47 rfl) rfl (g := (mkF m 163 #[.val (.int p1), .val (.int p2), .val (.int p3), .val (.int p4), .val (.ref x3), .val .null, .val .null, .val (.int (1 : Int32)), .val .null, .unset, .unset, .unset, .unset] [])) rfl (hb hby at_163) (by decide) (by decide)
          obtain ⟨b681, g681⟩ : ∃ z, z = T3.heap.size := ⟨_, rfl⟩
          rw [← g681] at A681 D681 st681
          have lt681 : @LT.lt Nat _ b681 h681.size := A681.lt
          have K681 : Keep T3.heap h681 [] := (Keep.refl _ _).ext E681
          have sz2_K681 := K681.1
          have F681_loc : Fld Z h681 b681 "com/example/links_to_sitemap/linkstositemap/SitemapFileWriter$Entry" "loc" "Ljava/lang/String;" .null := D681 (Or.inr (tw hw 56 rfl)) (ty := (.object "java/lang/String")) (by decide)
          have F681_fields : Fld Z h681 b681 "com/example/links_to_sitemap/linkstositemap/SitemapFileWriter$Entry" "fields" "[Ljava/lang/String;" .null := D681 (Or.inr (tw hw 58 rfl)) (ty := (.array (.object "java/lang/String"))) (by decide)
          obtain ⟨b682, T682, h682, k682, X682, e682, E682, hS682, hk682, hZ682, hown682, st682⟩ := ldcS (s := s) (vm0 := s.vm) X681 hx hZ hown (tw hw 48 rfl) wStr e681 hS0 (by omega) (g := (mkF m 167 #[.val (.int p1), .val (.int p2), .val (.int p3), .val (.int p4), .val (.ref x3), .val .null, .val .null, .val (.int (1 : Int32)), .val .null, .unset, .unset, .unset, .unset] [(.ref b681), (.ref b681)])) rfl (hb hby at_167) (n := 80) (by decide) (by decide) (by decide) (by decide)
          have K682 : Keep h681 h682 [] := (Keep.refl _ _).ext E682
          have sz3_K682 := K682.1
          have C684 := A681.keep K682
          have C685 := F681_loc.keep K682 nin0
          have C686 := F681_fields.keep K682 nin0
          have O687 : Old Z n0 T3.heap := O0.keep K3 all0
          have O688 : Old Z n0 h681 := O687.keep K681 all0
          have O689 : Old Z n0 h682 := O688.keep K682 all0
          obtain ⟨_, _, ⟨T683, L683, k683, n683⟩, -, X683, ⟨Lc683, hQ683, l683, y683, z683⟩, st683⟩ := X682.specialBack hx (y := (⟨"com/example/links_to_sitemap/linkstositemap/SitemapFileWriter$Entry", "<init>", "(Ljava/lang/String;[Ljava/lang/String;)V"⟩ : MethodName)) rfl hown682 (mvT hZ682 (tw hw 51 rfl)) (mvT hZ682 (tw hw 52 rfl)) (mvT hZ682 (tw hw 53 rfl)) (by decide) (backOf (W := 1) (rmEntryN l Z a0 hw [] b681 b682  h682 n0 O689 (by omega : @LE.le Nat _ n0 b681) C684 C685 C686) hZ682 (tw hw 53 rfl) (tw hw 47 rfl) (by decide) (by decide)) (g := (mkF m 171 #[.val (.int p1), .val (.int p2), .val (.int p3), .val (.int p4), .val (.ref x3), .val .null, .val .null, .val (.int (1 : Int32)), .val .null, .unset, .unset, .unset, .unset] [.null, (.ref b682), (.ref b681), (.ref b681)])) rfl (by rw [hml]; rfl) (Steps.refl _) (a := b681) (argsL := [(.ref b682), .null]) (rest := [(.ref b681)]) (lenOf pd_10 rfl) rfl (by show 2 * 0 + _ ≤ _; exact Nat.le_of_eq rfl) (hb hby at_171) (fun _ _ => ⟨rfl, e682, (by decide : 5 + 0 ≤ _), (by decide : 91 + 0 ≤ _)⟩)
          dsimp only [Pt.U, Pt.locs, Pt.cells, Pt.slots] at X683 l683 y683 z683 st683 hQ683
          subst l683 y683 z683
          obtain ⟨rfl, N683q, K683, E683, F683⟩ := hQ683
          have sz4_K683 := K683.1
          have N683 := Fr.app N3 N683q
          have O690 : Old Z n0 T683.heap := O689.keep K683 (allS (by omega) (all0))
          obtain ⟨T691, X691, e691, st691⟩ := getS2 X683 hx hZ682 hown682 (host := "") (Or.inl (tw hw 59 rfl)) Via.refl rfl (Sta.ext O690.2 S_0) (g := (mkF m 178 #[.val (.int p1), .val (.int p2), .val (.int p3), .val (.int p4), .val (.ref x3), .val .null, .val .null, .val (.int (1 : Int32)), .val .null, .val (.ref b681), .unset, .unset, .unset] [(.ref b681)])) rfl (hb hby at_178)
          obtain ⟨cq692, kq692, q692a, q692b, q692c⟩ := isOf hZ682 e691 E683
          obtain ⟨_, _, ⟨T692, L692, k692, n692⟩, -, X692, ⟨Lc692, hQ692, l692, y692, z692⟩, st692⟩ := X691.virtualBack hx (y := (⟨"com/example/links_to_sitemap/linkstositemap/SitemapFileWriter$Entry", "field", "(Lcom/example/links_to_sitemap/linkstositemap/LinkField;)Ljava/lang/String;"⟩ : MethodName)) (z := (⟨"com/example/links_to_sitemap/linkstositemap/SitemapFileWriter$Entry", "field", "(Lcom/example/links_to_sitemap/linkstositemap/LinkField;)Ljava/lang/String;"⟩ : MethodName)) hown682 (mvT hZ682 (tw hw 62 rfl)) (mvT hZ682 (tw hw 63 rfl)) (notFace_of_selects (args := #[]) (mvT hZ682 (tw hw 65 rfl))) (mvT hZ682 (tw hw 65 rfl)) (mvT hZ682 (tw hw 64 rfl)) (by decide) (backOf (W := 0) (rmFieldN l Z a0 hw [] b681 lf0  T683.heap n0 O690 F683) hZ682 (tw hw 66 rfl) (tw hw 47 rfl) (by decide) (by decide)) q692a q692c (g := (mkF m 181 #[.val (.int p1), .val (.int p2), .val (.int p3), .val (.int p4), .val (.ref x3), .val .null, .val .null, .val (.int (1 : Int32)), .val .null, .val (.ref b681), .unset, .unset, .unset] [(.ref lf0), (.ref b681)])) rfl (by rw [hml]; rfl) (Steps.refl _) (argsL := [(.ref lf0)]) (rest := []) (lenOf pd_11 rfl) rfl (by show 2 * 0 + _ ≤ _; exact Nat.le_of_eq rfl) (hb hby at_181) (fun _ _ => ⟨rfl, e691, (by decide : 5 + 0 ≤ _), (by decide : 91 + 0 ≤ _)⟩)
          dsimp only [Pt.U, Pt.locs, Pt.cells, Pt.slots] at X692 l692 y692 z692 st692 hQ692
          subst l692 y692 z692
          obtain ⟨rfl, N692q, H692⟩ := hQ692
          have N692 := Fr.app N683 N692q
          obtain ⟨T693, X693, e693, st693⟩ := getS2 X692 hx hZ682 hown682 (host := "") (Or.inl (tw hw 76 rfl)) Via.refl H692 (Sta.ext O690.2 S_1) (g := (mkF m 188 #[.val (.int p1), .val (.int p2), .val (.int p3), .val (.int p4), .val (.ref x3), .val .null, .val .null, .val (.int (1 : Int32)), .val .null, .val (.ref b681), .val .null, .unset, .unset] [(.ref b681)])) rfl (hb hby at_188)
          obtain ⟨cq694, kq694, q694a, q694b, q694c⟩ := isOf hZ682 e693 E683
          obtain ⟨_, _, ⟨T694, L694, k694, n694⟩, -, X694, ⟨Lc694, hQ694, l694, y694, z694⟩, st694⟩ := X693.virtualBack hx (y := (⟨"com/example/links_to_sitemap/linkstositemap/SitemapFileWriter$Entry", "field", "(Lcom/example/links_to_sitemap/linkstositemap/LinkField;)Ljava/lang/String;"⟩ : MethodName)) (z := (⟨"com/example/links_to_sitemap/linkstositemap/SitemapFileWriter$Entry", "field", "(Lcom/example/links_to_sitemap/linkstositemap/LinkField;)Ljava/lang/String;"⟩ : MethodName)) hown682 (mvT hZ682 (tw hw 62 rfl)) (mvT hZ682 (tw hw 63 rfl)) (notFace_of_selects (args := #[]) (mvT hZ682 (tw hw 65 rfl))) (mvT hZ682 (tw hw 65 rfl)) (mvT hZ682 (tw hw 64 rfl)) (by decide) (backOf (W := 0) (rmFieldN l Z a0 hw [] b681 lf1  T683.heap n0 O690 F683) hZ682 (tw hw 66 rfl) (tw hw 47 rfl) (by decide) (by decide)) q694a q694c (g := (mkF m 191 #[.val (.int p1), .val (.int p2), .val (.int p3), .val (.int p4), .val (.ref x3), .val .null, .val .null, .val (.int (1 : Int32)), .val .null, .val (.ref b681), .val .null, .unset, .unset] [(.ref lf1), (.ref b681)])) rfl (by rw [hml]; rfl) (Steps.refl _) (argsL := [(.ref lf1)]) (rest := []) (lenOf pd_11 rfl) rfl (by show 2 * 0 + _ ≤ _; exact Nat.le_of_eq rfl) (hb hby at_191) (fun _ _ => ⟨rfl, e693, (by decide : 5 + 0 ≤ _), (by decide : 91 + 0 ≤ _)⟩)
          dsimp only [Pt.U, Pt.locs, Pt.cells, Pt.slots] at X694 l694 y694 z694 st694 hQ694
          subst l694 y694 z694
          obtain ⟨rfl, N694q, H694⟩ := hQ694
          have N694 := Fr.app N692 N694q
          obtain ⟨T695, X695, e695, st695⟩ := getS2 X694 hx hZ682 hown682 (host := "") (Or.inl (tw hw 78 rfl)) Via.refl H694 (Sta.ext O690.2 S_2) (g := (mkF m 198 #[.val (.int p1), .val (.int p2), .val (.int p3), .val (.int p4), .val (.ref x3), .val .null, .val .null, .val (.int (1 : Int32)), .val .null, .val (.ref b681), .val .null, .val .null, .unset] [(.ref b681)])) rfl (hb hby at_198)
          obtain ⟨cq696, kq696, q696a, q696b, q696c⟩ := isOf hZ682 e695 E683
          obtain ⟨_, _, ⟨T696, L696, k696, n696⟩, -, X696, ⟨Lc696, hQ696, l696, y696, z696⟩, st696⟩ := X695.virtualBack hx (y := (⟨"com/example/links_to_sitemap/linkstositemap/SitemapFileWriter$Entry", "field", "(Lcom/example/links_to_sitemap/linkstositemap/LinkField;)Ljava/lang/String;"⟩ : MethodName)) (z := (⟨"com/example/links_to_sitemap/linkstositemap/SitemapFileWriter$Entry", "field", "(Lcom/example/links_to_sitemap/linkstositemap/LinkField;)Ljava/lang/String;"⟩ : MethodName)) hown682 (mvT hZ682 (tw hw 62 rfl)) (mvT hZ682 (tw hw 63 rfl)) (notFace_of_selects (args := #[]) (mvT hZ682 (tw hw 65 rfl))) (mvT hZ682 (tw hw 65 rfl)) (mvT hZ682 (tw hw 64 rfl)) (by decide) (backOf (W := 0) (rmFieldN l Z a0 hw [] b681 lf2  T683.heap n0 O690 F683) hZ682 (tw hw 66 rfl) (tw hw 47 rfl) (by decide) (by decide)) q696a q696c (g := (mkF m 201 #[.val (.int p1), .val (.int p2), .val (.int p3), .val (.int p4), .val (.ref x3), .val .null, .val .null, .val (.int (1 : Int32)), .val .null, .val (.ref b681), .val .null, .val .null, .unset] [(.ref lf2), (.ref b681)])) rfl (by rw [hml]; rfl) (Steps.refl _) (argsL := [(.ref lf2)]) (rest := []) (lenOf pd_11 rfl) rfl (by show 2 * 0 + _ ≤ _; exact Nat.le_of_eq rfl) (hb hby at_201) (fun _ _ => ⟨rfl, e695, (by decide : 5 + 0 ≤ _), (by decide : 91 + 0 ≤ _)⟩)
          dsimp only [Pt.U, Pt.locs, Pt.cells, Pt.slots] at X696 l696 y696 z696 st696 hQ696
          subst l696 y696 z696
          obtain ⟨rfl, N696q, H696⟩ := hQ696
          have N696 := Fr.app N694 N696q
          obtain ⟨fs, hr, hrun, hended, eR, eW, eI, eS⟩ := Stand.leaveW (s := s) (vm₁ := T682.vm) X696 hS682 (by rw [H696]; omega) (v := some (.int (1 : Int32))) (fun h => by rw [Bd.returns] at h; cases h)
          refine ⟨_, _, pre592 _ ?_, hrun, hended, _, _, rfl, ?_, eR, eW, eI, eS.mono (by decide) (by decide)⟩
          · skip
            show Steps p.tables e below (T3.setTop (mkF m 123 #[.val (.int p1), .val (.int p2), .val (.int p3), .val (.int p4), .val (.ref x3), .val .null, .val .null, .unset, .unset, .unset, .unset, .unset, .unset] [(.int (p1 &&& (8 : Int32)))])) _
            refine XS.ifNo X3.here hx rfl (hb hby at_123) rfl ((if0 _ _).trans (feq hc591).1) ?_
            show Steps p.tables e below (T3.setTop (mkF m 126 #[.val (.int p1), .val (.int p2), .val (.int p3), .val (.int p4), .val (.ref x3), .val .null, .val .null, .unset, .unset, .unset, .unset, .unset, .unset] [])) _
            refine XS.iconst X3.here hx rfl (hb hby at_126) ?_
            show Steps p.tables e below (T3.setTop (mkF m 127 #[.val (.int p1), .val (.int p2), .val (.int p3), .val (.int p4), .val (.ref x3), .val .null, .val .null, .unset, .unset, .unset, .unset, .unset, .unset] [(.int (1 : Int32))])) _
            refine XS.goto X3.here hx rfl (pc0 := 127) (pc' := 131) rfl (hb hby at_127) (by decide) (by decide) ?_
            show Steps p.tables e below (T3.setTop (mkF m 131 #[.val (.int p1), .val (.int p2), .val (.int p3), .val (.int p4), .val (.ref x3), .val .null, .val .null, .unset, .unset, .unset, .unset, .unset, .unset] [(.int (1 : Int32))])) _
            refine XS.istore X3.here hx rfl (hb hby at_131) rfl (l' := #[.val (.int p1), .val (.int p2), .val (.int p3), .val (.int p4), .val (.ref x3), .val .null, .val .null, .val (.int (1 : Int32)), .unset, .unset, .unset, .unset, .unset]) rfl ?_
            show Steps p.tables e below (T3.setTop (mkF m 133 #[.val (.int p1), .val (.int p2), .val (.int p3), .val (.int p4), .val (.ref x3), .val .null, .val .null, .val (.int (1 : Int32)), .unset, .unset, .unset, .unset, .unset] [])) _
            refine XS.iload X3.here hx rfl (hb hby at_133) rfl ?_
            show Steps p.tables e below (T3.setTop (mkF m 135 #[.val (.int p1), .val (.int p2), .val (.int p3), .val (.int p4), .val (.ref x3), .val .null, .val .null, .val (.int (1 : Int32)), .unset, .unset, .unset, .unset, .unset] [(.int (1 : Int32))])) _
            refine XS.ifNo X3.here hx rfl (hb hby at_135) rfl ((if0 _ _).trans (feq (by decide : ¬ ((1 : Int32) = (0 : Int32)))).1) ?_
            show Steps p.tables e below (T3.setTop (mkF m 138 #[.val (.int p1), .val (.int p2), .val (.int p3), .val (.int p4), .val (.ref x3), .val .null, .val .null, .val (.int (1 : Int32)), .unset, .unset, .unset, .unset, .unset] [])) _
            refine XS.aconstNull X3.here hx rfl (hb hby at_138) ?_
            show Steps p.tables e below (T3.setTop (mkF m 139 #[.val (.int p1), .val (.int p2), .val (.int p3), .val (.int p4), .val (.ref x3), .val .null, .val .null, .val (.int (1 : Int32)), .unset, .unset, .unset, .unset, .unset] [.null])) _
            refine XS.goto X3.here hx rfl (pc0 := 139) (pc' := 161) rfl (hb hby at_139) (by decide) (by decide) ?_
            show Steps p.tables e below (T3.setTop (mkF m 161 #[.val (.int p1), .val (.int p2), .val (.int p3), .val (.int p4), .val (.ref x3), .val .null, .val .null, .val (.int (1 : Int32)), .unset, .unset, .unset, .unset, .unset] [.null])) _
            refine XS.astore X3.here hx rfl (hb hby at_161) rfl rfl (l' := #[.val (.int p1), .val (.int p2), .val (.int p3), .val (.int p4), .val (.ref x3), .val .null, .val .null, .val (.int (1 : Int32)), .val .null, .unset, .unset, .unset, .unset]) rfl ?_
            show Steps p.tables e below (T3.setTop (mkF m 163 #[.val (.int p1), .val (.int p2), .val (.int p3), .val (.int p4), .val (.ref x3), .val .null, .val .null, .val (.int (1 : Int32)), .val .null, .unset, .unset, .unset, .unset] [])) _
            refine st681 _ ?_
            show Steps p.tables e below (T681.setTop (mkF m 166 #[.val (.int p1), .val (.int p2), .val (.int p3), .val (.int p4), .val (.ref x3), .val .null, .val .null, .val (.int (1 : Int32)), .val .null, .unset, .unset, .unset, .unset] [(.ref b681)])) _
            refine XS.dup X681.here hx rfl (hb hby at_166) rfl rfl ?_
            show Steps p.tables e below (T681.setTop (mkF m 167 #[.val (.int p1), .val (.int p2), .val (.int p3), .val (.int p4), .val (.ref x3), .val .null, .val .null, .val (.int (1 : Int32)), .val .null, .unset, .unset, .unset, .unset] [(.ref b681), (.ref b681)])) _
            refine st682 _ ?_
            show Steps p.tables e below (T682.setTop (mkF m 169 #[.val (.int p1), .val (.int p2), .val (.int p3), .val (.int p4), .val (.ref x3), .val .null, .val .null, .val (.int (1 : Int32)), .val .null, .unset, .unset, .unset, .unset] [(.ref b682), (.ref b681), (.ref b681)])) _
            refine XS.aload X682.here hx rfl (hb hby at_169) rfl rfl ?_
            show Steps p.tables e below (T682.setTop (mkF m 171 #[.val (.int p1), .val (.int p2), .val (.int p3), .val (.int p4), .val (.ref x3), .val .null, .val .null, .val (.int (1 : Int32)), .val .null, .unset, .unset, .unset, .unset] [.null, (.ref b682), (.ref b681), (.ref b681)])) _
            refine st683.trans ?_
            show Steps p.tables e below (T683.setTop (mkF m 174 #[.val (.int p1), .val (.int p2), .val (.int p3), .val (.int p4), .val (.ref x3), .val .null, .val .null, .val (.int (1 : Int32)), .val .null, .unset, .unset, .unset, .unset] [(.ref b681)])) _
            refine XS.astore X683.here hx rfl (hb hby at_174) rfl rfl (l' := #[.val (.int p1), .val (.int p2), .val (.int p3), .val (.int p4), .val (.ref x3), .val .null, .val .null, .val (.int (1 : Int32)), .val .null, .val (.ref b681), .unset, .unset, .unset]) rfl ?_
            show Steps p.tables e below (T683.setTop (mkF m 176 #[.val (.int p1), .val (.int p2), .val (.int p3), .val (.int p4), .val (.ref x3), .val .null, .val .null, .val (.int (1 : Int32)), .val .null, .val (.ref b681), .unset, .unset, .unset] [])) _
            refine XS.aload X683.here hx rfl (hb hby at_176) rfl rfl ?_
            show Steps p.tables e below (T683.setTop (mkF m 178 #[.val (.int p1), .val (.int p2), .val (.int p3), .val (.int p4), .val (.ref x3), .val .null, .val .null, .val (.int (1 : Int32)), .val .null, .val (.ref b681), .unset, .unset, .unset] [(.ref b681)])) _
            refine st691 _ ?_
            show Steps p.tables e below (T691.setTop (mkF m 181 #[.val (.int p1), .val (.int p2), .val (.int p3), .val (.int p4), .val (.ref x3), .val .null, .val .null, .val (.int (1 : Int32)), .val .null, .val (.ref b681), .unset, .unset, .unset] [(.ref lf0), (.ref b681)])) _
            refine st692.trans ?_
            show Steps p.tables e below (T692.setTop (mkF m 184 #[.val (.int p1), .val (.int p2), .val (.int p3), .val (.int p4), .val (.ref x3), .val .null, .val .null, .val (.int (1 : Int32)), .val .null, .val (.ref b681), .unset, .unset, .unset] [.null])) _
            refine XS.astore X692.here hx rfl (hb hby at_184) rfl rfl (l' := #[.val (.int p1), .val (.int p2), .val (.int p3), .val (.int p4), .val (.ref x3), .val .null, .val .null, .val (.int (1 : Int32)), .val .null, .val (.ref b681), .val .null, .unset, .unset]) rfl ?_
            show Steps p.tables e below (T692.setTop (mkF m 186 #[.val (.int p1), .val (.int p2), .val (.int p3), .val (.int p4), .val (.ref x3), .val .null, .val .null, .val (.int (1 : Int32)), .val .null, .val (.ref b681), .val .null, .unset, .unset] [])) _
            refine XS.aload X692.here hx rfl (hb hby at_186) rfl rfl ?_
            show Steps p.tables e below (T692.setTop (mkF m 188 #[.val (.int p1), .val (.int p2), .val (.int p3), .val (.int p4), .val (.ref x3), .val .null, .val .null, .val (.int (1 : Int32)), .val .null, .val (.ref b681), .val .null, .unset, .unset] [(.ref b681)])) _
            refine st693 _ ?_
            show Steps p.tables e below (T693.setTop (mkF m 191 #[.val (.int p1), .val (.int p2), .val (.int p3), .val (.int p4), .val (.ref x3), .val .null, .val .null, .val (.int (1 : Int32)), .val .null, .val (.ref b681), .val .null, .unset, .unset] [(.ref lf1), (.ref b681)])) _
            refine st694.trans ?_
            show Steps p.tables e below (T694.setTop (mkF m 194 #[.val (.int p1), .val (.int p2), .val (.int p3), .val (.int p4), .val (.ref x3), .val .null, .val .null, .val (.int (1 : Int32)), .val .null, .val (.ref b681), .val .null, .unset, .unset] [.null])) _
            refine XS.astore X694.here hx rfl (hb hby at_194) rfl rfl (l' := #[.val (.int p1), .val (.int p2), .val (.int p3), .val (.int p4), .val (.ref x3), .val .null, .val .null, .val (.int (1 : Int32)), .val .null, .val (.ref b681), .val .null, .val .null, .unset]) rfl ?_
            show Steps p.tables e below (T694.setTop (mkF m 196 #[.val (.int p1), .val (.int p2), .val (.int p3), .val (.int p4), .val (.ref x3), .val .null, .val .null, .val (.int (1 : Int32)), .val .null, .val (.ref b681), .val .null, .val .null, .unset] [])) _
            refine XS.aload X694.here hx rfl (hb hby at_196) rfl rfl ?_
            show Steps p.tables e below (T694.setTop (mkF m 198 #[.val (.int p1), .val (.int p2), .val (.int p3), .val (.int p4), .val (.ref x3), .val .null, .val .null, .val (.int (1 : Int32)), .val .null, .val (.ref b681), .val .null, .val .null, .unset] [(.ref b681)])) _
            refine st695 _ ?_
            show Steps p.tables e below (T695.setTop (mkF m 201 #[.val (.int p1), .val (.int p2), .val (.int p3), .val (.int p4), .val (.ref x3), .val .null, .val .null, .val (.int (1 : Int32)), .val .null, .val (.ref b681), .val .null, .val .null, .unset] [(.ref lf2), (.ref b681)])) _
            refine st696.trans ?_
            show Steps p.tables e below (T696.setTop (mkF m 204 #[.val (.int p1), .val (.int p2), .val (.int p3), .val (.int p4), .val (.ref x3), .val .null, .val .null, .val (.int (1 : Int32)), .val .null, .val (.ref b681), .val .null, .val .null, .unset] [.null])) _
            refine XS.astore X696.here hx rfl (hb hby at_204) rfl rfl (l' := #[.val (.int p1), .val (.int p2), .val (.int p3), .val (.int p4), .val (.ref x3), .val .null, .val .null, .val (.int (1 : Int32)), .val .null, .val (.ref b681), .val .null, .val .null, .val .null]) rfl ?_
            show Steps p.tables e below (T696.setTop (mkF m 206 #[.val (.int p1), .val (.int p2), .val (.int p3), .val (.int p4), .val (.ref x3), .val .null, .val .null, .val (.int (1 : Int32)), .val .null, .val (.ref b681), .val .null, .val .null, .val .null] [])) _
            refine XS.iload X696.here hx rfl (hb hby at_206) rfl ?_
            show Steps p.tables e below (T696.setTop (mkF m 208 #[.val (.int p1), .val (.int p2), .val (.int p3), .val (.int p4), .val (.ref x3), .val .null, .val .null, .val (.int (1 : Int32)), .val .null, .val (.ref b681), .val .null, .val .null, .val .null] [(.int (1 : Int32))])) _
            refine XS.ifNo X696.here hx rfl (hb hby at_208) rfl ((if0 _ _).trans (feq (by decide : ¬ ((1 : Int32) = (0 : Int32)))).1) ?_
            show Steps p.tables e below (T696.setTop (mkF m 211 #[.val (.int p1), .val (.int p2), .val (.int p3), .val (.int p4), .val (.ref x3), .val .null, .val .null, .val (.int (1 : Int32)), .val .null, .val (.ref b681), .val .null, .val .null, .val .null] [])) _
            refine XS.aload X696.here hx rfl (hb hby at_211) rfl rfl ?_
            show Steps p.tables e below (T696.setTop (mkF m 213 #[.val (.int p1), .val (.int p2), .val (.int p3), .val (.int p4), .val (.ref x3), .val .null, .val .null, .val (.int (1 : Int32)), .val .null, .val (.ref b681), .val .null, .val .null, .val .null] [.null])) _
            refine XS.ifnonnullNo X696.here hx rfl (hb hby at_213) rfl ?_
            show Steps p.tables e below (T696.setTop (mkF m 216 #[.val (.int p1), .val (.int p2), .val (.int p3), .val (.int p4), .val (.ref x3), .val .null, .val .null, .val (.int (1 : Int32)), .val .null, .val (.ref b681), .val .null, .val .null, .val .null] [])) _
            refine XS.aload X696.here hx rfl (hb hby at_216) rfl rfl ?_
            show Steps p.tables e below (T696.setTop (mkF m 218 #[.val (.int p1), .val (.int p2), .val (.int p3), .val (.int p4), .val (.ref x3), .val .null, .val .null, .val (.int (1 : Int32)), .val .null, .val (.ref b681), .val .null, .val .null, .val .null] [.null])) _
            refine XS.ifnonnullNo X696.here hx rfl (hb hby at_218) rfl ?_
            show Steps p.tables e below (T696.setTop (mkF m 221 #[.val (.int p1), .val (.int p2), .val (.int p3), .val (.int p4), .val (.ref x3), .val .null, .val .null, .val (.int (1 : Int32)), .val .null, .val (.ref b681), .val .null, .val .null, .val .null] [])) _
            refine XS.aload X696.here hx rfl (hb hby at_221) rfl rfl ?_
            show Steps p.tables e below (T696.setTop (mkF m 223 #[.val (.int p1), .val (.int p2), .val (.int p3), .val (.int p4), .val (.ref x3), .val .null, .val .null, .val (.int (1 : Int32)), .val .null, .val (.ref b681), .val .null, .val .null, .val .null] [.null])) _
            refine XS.ifnonnullNo X696.here hx rfl (hb hby at_223) rfl ?_
            show Steps p.tables e below (T696.setTop (mkF m 226 #[.val (.int p1), .val (.int p2), .val (.int p3), .val (.int p4), .val (.ref x3), .val .null, .val .null, .val (.int (1 : Int32)), .val .null, .val (.ref b681), .val .null, .val .null, .val .null] [])) _
            refine XS.iconst X696.here hx rfl (hb hby at_226) ?_
            show Steps p.tables e below (T696.setTop (mkF m 227 #[.val (.int p1), .val (.int p2), .val (.int p3), .val (.int p4), .val (.ref x3), .val .null, .val .null, .val (.int (1 : Int32)), .val .null, .val (.ref b681), .val .null, .val .null, .val .null] [(.int (1 : Int32))])) _
            refine XS.goto X696.here hx rfl (pc0 := 227) (pc' := 231) rfl (hb hby at_227) (by decide) (by decide) ?_
            show Steps p.tables e below (T696.setTop (mkF m 231 #[.val (.int p1), .val (.int p2), .val (.int p3), .val (.int p4), .val (.ref x3), .val .null, .val .null, .val (.int (1 : Int32)), .val .null, .val (.ref b681), .val .null, .val .null, .val .null] [(.int (1 : Int32))])) _
            exact retN X696 hx (t := .boolean) Bd.returns (by simp) (hb hby at_231) hr
          · show Q_rm0 Z p1 p2 p3 p4 cs lf0 lf1 lf2 h0 n0 _ T696.heap _
            rw [H696]
            exact ⟨rfl, N696⟩
  · skip
    have pre698 : ∀ t, Steps p.tables e below (s₁.setTop (mkF m 24 #[.val (.int p1), .val (.int p2), .val (.int p3), .val (.int p4), .val .null, .unset, .unset, .unset, .unset, .unset, .unset, .unset, .unset] [(.int (p1 &&& (2 : Int32)))])) t → Steps p.tables e below (s₁.setTop (entryFrame m #[(.int p1), (.int p2), (.int p3), (.int p4)] maxLocals)) t := by
      intro t kt
      refine pre2 _ ?_
      show Steps p.tables e below (s₁.setTop (mkF m 3 #[.val (.int p1), .val (.int p2), .val (.int p3), .val (.int p4), .unset, .unset, .unset, .unset, .unset, .unset, .unset, .unset, .unset] [(.int (p1 &&& (1 : Int32)))])) _
      refine XS.ifNo X0.here hx rfl (hb hby at_3) rfl ((if0 _ _).trans (feq hc1).1) ?_
      show Steps p.tables e below (s₁.setTop (mkF m 6 #[.val (.int p1), .val (.int p2), .val (.int p3), .val (.int p4), .unset, .unset, .unset, .unset, .unset, .unset, .unset, .unset, .unset] [])) _
      refine XS.aconstNull X0.here hx rfl (hb hby at_6) ?_
      show Steps p.tables e below (s₁.setTop (mkF m 7 #[.val (.int p1), .val (.int p2), .val (.int p3), .val (.int p4), .unset, .unset, .unset, .unset, .unset, .unset, .unset, .unset, .unset] [.null])) _
      refine XS.goto X0.here hx rfl (pc0 := 7) (pc' := 19) rfl (hb hby at_7) (by decide) (by decide) ?_
      show Steps p.tables e below (s₁.setTop (mkF m 19 #[.val (.int p1), .val (.int p2), .val (.int p3), .val (.int p4), .unset, .unset, .unset, .unset, .unset, .unset, .unset, .unset, .unset] [.null])) _
      refine XS.astore X0.here hx rfl (hb hby at_19) rfl rfl (l' := #[.val (.int p1), .val (.int p2), .val (.int p3), .val (.int p4), .val .null, .unset, .unset, .unset, .unset, .unset, .unset, .unset, .unset]) rfl ?_
      show Steps p.tables e below (s₁.setTop (mkF m 21 #[.val (.int p1), .val (.int p2), .val (.int p3), .val (.int p4), .val .null, .unset, .unset, .unset, .unset, .unset, .unset, .unset, .unset] [])) _
      refine XS.iloadN X0.here hx rfl (hb hby at_21) rfl ?_
      show Steps p.tables e below (s₁.setTop (mkF m 22 #[.val (.int p1), .val (.int p2), .val (.int p3), .val (.int p4), .val .null, .unset, .unset, .unset, .unset, .unset, .unset, .unset, .unset] [(.int p1)])) _
      refine XS.iconst X0.here hx rfl (hb hby at_22) ?_
      show Steps p.tables e below (s₁.setTop (mkF m 23 #[.val (.int p1), .val (.int p2), .val (.int p3), .val (.int p4), .val .null, .unset, .unset, .unset, .unset, .unset, .unset, .unset, .unset] [(.int (2 : Int32)), (.int p1)])) _
      refine XS.iand X0.here hx rfl (hb hby at_23) rfl ?_
      exact kt
    by_cases hc697 : (p1 &&& (2 : Int32)) = (0 : Int32)
    · skip
      obtain ⟨T699, h699, X699, e699, E699, A699, D699, -, st699⟩ := newO X0 hx hZ hown (tw hw 26 rfl) (tw hw 10 rfl) (tw hw 2 rfl) e0 (g := (mkF m 31 #[.val (.int p1), .val (.int p2), .val (.int p3), .val (.int p4), .val .null, .unset, .unset, .unset, .unset, .unset, .unset, .unset, .unset] [])) rfl (hb hby at_31) (by decide) (by decide)
      obtain ⟨b699, g699⟩ : ∃ z, z = h0.size := ⟨_, rfl⟩
      rw [← g699] at A699 D699 st699
      have lt699 : @LT.lt Nat _ b699 h699.size := A699.lt
      have K699 : Keep h0 h699 [] := (Keep.refl _ _).ext E699
      have sz1_K699 := K699.1
      have F699_value : Fld Z h699 b699 "java/lang/String" "value" "[B" .null := D699 (Or.inr (tw hw 23 rfl)) (ty := (.array .byte)) (by decide)
      have F699_coder : Fld Z h699 b699 "java/lang/String" "coder" "B" (.int (0 : Int32)) := D699 (Or.inr (tw hw 25 rfl)) (ty := .byte) (by decide)
      obtain ⟨T700, h700, k700, X700, e700, E700, A700, st700⟩ := newP X699 hx hZ (tw hw 27 rfl) e699 (g := (mkF m 36 #[.val (.int p1), .val (.int p2), .val (.int p3), .val (.int p4), .val .null, .unset, .unset, .unset, .unset, .unset, .unset, .unset, .unset] [(.int (2 : Int32)), (.ref b699), (.ref b699)])) rfl (hb hby at_36) rfl (by decide) (cap := 2) (by decide) (by decide) (by decide) (by decide)
      obtain ⟨b700, g700⟩ : ∃ z, z = h699.size := ⟨_, rfl⟩
      rw [← g700] at A700 st700
      have V700 : Arv Z h700 b700 k700 .char (2 : Int32) [(.int (0 : Int32)), (.int (0 : Int32))] (.int (0 : Int32)) := (Arv.new A700 (by decide)).pad (pad_rep [] (.int (0 : Int32)) 2)
      have lt700 : @LT.lt Nat _ b700 h700.size := V700.lt
      have K700 : Keep h699 h700 [] := (Keep.refl _ _).ext E700
      have sz2_K700 := K700.1
      obtain ⟨cl701, Ar701, q701, S701, Nn701, H701, G701⟩ := V700
      obtain ⟨T702, h702, X702, e702, W702, st702⟩ := stC X700 hx hZ e700 Ar701 (j := (0 : Int32)) (inb_of S701 ⟨by decide, by decide⟩) (g := (mkF m 46 #[.val (.int p1), .val (.int p2), .val (.int p3), .val (.int p4), .val .null, .unset, .unset, .unset, .unset, .unset, .unset, .unset, .unset] [(.int ((p3 &&& (255 : Int32)).toUInt32.toUInt16.toUInt32.toInt32)), (.int (0 : Int32)), (.ref b700), (.ref b700), (.ref b699), (.ref b699)])) rfl rfl (hb hby at_46)
      have V702 : Arv Z h702 b700 k700 .char (2 : Int32) [(.int (((p3 &&& (255 : Int32)).toUInt32.toUInt16.toUInt32.toInt32).toUInt32.toUInt16.toUInt32.toInt32)), (.int (0 : Int32))] (.int (0 : Int32)) := Arv.set Ar701 q701 S701 Nn701 H701 G701 (fits_nar_char _) W702 0 rfl (Nat.le_of_ble_eq_true rfl)
      have K702 := Keep.of_wr W702
      have N702 := Fr.snoc X702 N0 (by omega : @LE.le Nat _ n0 b700)
      have sz3_K702 := K702.1
      obtain ⟨cl703, Ar703, q703, S703, Nn703, H703, G703⟩ := V702
      obtain ⟨T704, h704, X704, e704, W704, st704⟩ := stC X702 hx hZ e702 Ar703 (j := (1 : Int32)) (inb_of S703 ⟨by decide, by decide⟩) (g := (mkF m 58 #[.val (.int p1), .val (.int p2), .val (.int p3), .val (.int p4), .val .null, .unset, .unset, .unset, .unset, .unset, .unset, .unset, .unset] [(.int ((((p3.toUInt32 >>> ((8 : Int32) &&& 31).toUInt32).toInt32) &&& (255 : Int32)).toUInt32.toUInt16.toUInt32.toInt32)), (.int (1 : Int32)), (.ref b700), (.ref b700), (.ref b699), (.ref b699)])) rfl rfl (hb hby at_58)
      have V704 : Arv Z h704 b700 k700 .char (2 : Int32) [(.int (((p3 &&& (255 : Int32)).toUInt32.toUInt16.toUInt32.toInt32).toUInt32.toUInt16.toUInt32.toInt32)), (.int (((((p3.toUInt32 >>> ((8 : Int32) &&& 31).toUInt32).toInt32) &&& (255 : Int32)).toUInt32.toUInt16.toUInt32.toInt32).toUInt32.toUInt16.toUInt32.toInt32))] (.int (0 : Int32)) := Arv.set Ar703 q703 S703 Nn703 H703 G703 (fits_nar_char _) W704 1 rfl (Nat.le_of_ble_eq_true rfl)
      have K704 := Keep.of_wr W704
      have N704 := Fr.snoc X704 N702 (by omega : @LE.le Nat _ n0 b700)
      have sz4_K704 := K704.1
      have C706 := A699.keep K700
      have C707 := C706.keep K702
      have C708 := C707.keep K704
      have C709 := F699_value.keep K700 nin0
      have C710 := C709.keep K702 (ninS (by omega : @Ne Nat b699 b700) (nin0))
      have C711 := C710.keep K704 (ninS (by omega : @Ne Nat b699 b700) (nin0))
      have C712 := F699_coder.keep K700 nin0
      have C713 := C712.keep K702 (ninS (by omega : @Ne Nat b699 b700) (nin0))
      have C714 := C713.keep K704 (ninS (by omega : @Ne Nat b699 b700) (nin0))
      have O715 : Old Z n0 h699 := O0.keep K699 all0
      have O716 : Old Z n0 h700 := O715.keep K700 all0
      have O717 : Old Z n0 h702 := O716.keep K702 (allS (by omega) (all0))
      have O718 : Old Z n0 h704 := O717.keep K704 (allS (by omega) (all0))
      obtain ⟨_, _, ⟨T705, L705, k705, n705⟩, -, X705, ⟨Lc705, hQ705, l705, y705, z705⟩, st705⟩ := X704.specialBack hx (y := (⟨"java/lang/String", "<init>", "([C)V"⟩ : MethodName)) rfl hown (mvT hZ (tw hw 28 rfl)) (mvT hZ (tw hw 29 rfl)) (mvT hZ (tw hw 30 rfl)) (by decide) (StrChars.Road.backV (W := 1) hZ hws (kI := 4) (tw hw 10 rfl) (cs := ([(((p3 &&& (255 : Int32)).toUInt32.toUInt16.toUInt32.toInt32).toUInt32.toUInt16.toUInt32.toInt32), (((((p3.toUInt32 >>> ((8 : Int32) &&& 31).toUInt32).toInt32) &&& (255 : Int32)).toUInt32.toUInt16.toUInt32.toInt32).toUInt32.toUInt16.toUInt32.toInt32)] : List Int32)) (bs := ([(((p3 &&& (255 : Int32)).toUInt32.toUInt16.toUInt32.toInt32).toUInt32.toUInt16.toUInt32.toInt32), (((((p3.toUInt32 >>> ((8 : Int32) &&& 31).toUInt32).toInt32) &&& (255 : Int32)).toUInt32.toUInt16.toUInt32.toInt32).toUInt32.toUInt16.toUInt32.toInt32)] : List Int32).map (fun c => c.toInt8.toInt32)) (n := 2) (by omega : @LE.le Nat _ n0 b699) (by omega) C708 C711 C714 V704 (Sta.ext O718.2 S_CS) c_CS rfl rfl (by decide) (by decide) (by intro d hd; simp only [List.mem_cons, List.not_mem_nil, or_false] at hd; rcases hd with rfl | rfl <;> exact own_byte _) rfl (by decide) (by decide)) (g := (mkF m 59 #[.val (.int p1), .val (.int p2), .val (.int p3), .val (.int p4), .val .null, .unset, .unset, .unset, .unset, .unset, .unset, .unset, .unset] [(.ref b700), (.ref b699), (.ref b699)])) rfl (by rw [hml]; rfl) (Steps.refl _) (a := b699) (argsL := [(.ref b700)]) (rest := [(.ref b699)]) (lenOf pd_5 rfl) rfl (by show 2 * 0 + _ ≤ _; exact Nat.le_of_eq rfl) (hb hby at_59) (fun _ _ => ⟨rfl, e704, (by decide : 2 + 1 ≤ _), (by decide : 6 + 2 ≤ _)⟩)
      dsimp only [Pt.U, Pt.locs, Pt.cells, Pt.slots] at X705 l705 y705 z705 st705 hQ705
      subst l705 y705 z705
      obtain ⟨rfl, N705q, K705, E705, C705, t705, kb705, ge705, gh705, tx705, Vf705, Av705⟩ := hQ705
      have lt705 : @LT.lt Nat _ t705 T705.heap.size := Av705.lt
      have sz5_K705 := K705.1
      have N705 := Fr.app N704 N705q
      have pre720 : ∀ t, Steps p.tables e below (T705.setTop (mkF m 67 #[.val (.int p1), .val (.int p2), .val (.int p3), .val (.int p4), .val .null, .val (.ref b699), .unset, .unset, .unset, .unset, .unset, .unset, .unset] [(.int (p1 &&& (4 : Int32)))])) t → Steps p.tables e below (s₁.setTop (entryFrame m #[(.int p1), (.int p2), (.int p3), (.int p4)] maxLocals)) t := by
        intro t kt
        refine pre698 _ ?_
        show Steps p.tables e below (s₁.setTop (mkF m 24 #[.val (.int p1), .val (.int p2), .val (.int p3), .val (.int p4), .val .null, .unset, .unset, .unset, .unset, .unset, .unset, .unset, .unset] [(.int (p1 &&& (2 : Int32)))])) _
        refine XS.ifYes X0.here hx rfl (pc0 := 24) (pc' := 31) rfl (hb hby at_24) rfl ((if0 _ _).trans (teq hc697).1) (by decide) (by decide) ?_
        show Steps p.tables e below (s₁.setTop (mkF m 31 #[.val (.int p1), .val (.int p2), .val (.int p3), .val (.int p4), .val .null, .unset, .unset, .unset, .unset, .unset, .unset, .unset, .unset] [])) _
        refine st699 _ ?_
        show Steps p.tables e below (T699.setTop (mkF m 34 #[.val (.int p1), .val (.int p2), .val (.int p3), .val (.int p4), .val .null, .unset, .unset, .unset, .unset, .unset, .unset, .unset, .unset] [(.ref b699)])) _
        refine XS.dup X699.here hx rfl (hb hby at_34) rfl rfl ?_
        show Steps p.tables e below (T699.setTop (mkF m 35 #[.val (.int p1), .val (.int p2), .val (.int p3), .val (.int p4), .val .null, .unset, .unset, .unset, .unset, .unset, .unset, .unset, .unset] [(.ref b699), (.ref b699)])) _
        refine XS.iconst X699.here hx rfl (hb hby at_35) ?_
        show Steps p.tables e below (T699.setTop (mkF m 36 #[.val (.int p1), .val (.int p2), .val (.int p3), .val (.int p4), .val .null, .unset, .unset, .unset, .unset, .unset, .unset, .unset, .unset] [(.int (2 : Int32)), (.ref b699), (.ref b699)])) _
        refine st700 _ ?_
        show Steps p.tables e below (T700.setTop (mkF m 38 #[.val (.int p1), .val (.int p2), .val (.int p3), .val (.int p4), .val .null, .unset, .unset, .unset, .unset, .unset, .unset, .unset, .unset] [(.ref b700), (.ref b699), (.ref b699)])) _
        refine XS.dup X700.here hx rfl (hb hby at_38) rfl rfl ?_
        show Steps p.tables e below (T700.setTop (mkF m 39 #[.val (.int p1), .val (.int p2), .val (.int p3), .val (.int p4), .val .null, .unset, .unset, .unset, .unset, .unset, .unset, .unset, .unset] [(.ref b700), (.ref b700), (.ref b699), (.ref b699)])) _
        refine XS.iconst X700.here hx rfl (hb hby at_39) ?_
        show Steps p.tables e below (T700.setTop (mkF m 40 #[.val (.int p1), .val (.int p2), .val (.int p3), .val (.int p4), .val .null, .unset, .unset, .unset, .unset, .unset, .unset, .unset, .unset] [(.int (0 : Int32)), (.ref b700), (.ref b700), (.ref b699), (.ref b699)])) _
        refine XS.iloadN X700.here hx rfl (hb hby at_40) rfl ?_
        show Steps p.tables e below (T700.setTop (mkF m 41 #[.val (.int p1), .val (.int p2), .val (.int p3), .val (.int p4), .val .null, .unset, .unset, .unset, .unset, .unset, .unset, .unset, .unset] [(.int p3), (.int (0 : Int32)), (.ref b700), (.ref b700), (.ref b699), (.ref b699)])) _
        refine XS.sipush X700.here hx rfl (hb hby at_41) ?_
        show Steps p.tables e below (T700.setTop (mkF m 44 #[.val (.int p1), .val (.int p2), .val (.int p3), .val (.int p4), .val .null, .unset, .unset, .unset, .unset, .unset, .unset, .unset, .unset] [(.int (255 : Int32)), (.int p3), (.int (0 : Int32)), (.ref b700), (.ref b700), (.ref b699), (.ref b699)])) _
        refine XS.iand X700.here hx rfl (hb hby at_44) rfl ?_
        show Steps p.tables e below (T700.setTop (mkF m 45 #[.val (.int p1), .val (.int p2), .val (.int p3), .val (.int p4), .val .null, .unset, .unset, .unset, .unset, .unset, .unset, .unset, .unset] [(.int (p3 &&& (255 : Int32))), (.int (0 : Int32)), (.ref b700), (.ref b700), (.ref b699), (.ref b699)])) _
        refine XS.i2c X700.here hx rfl (hb hby at_45) rfl ?_
        show Steps p.tables e below (T700.setTop (mkF m 46 #[.val (.int p1), .val (.int p2), .val (.int p3), .val (.int p4), .val .null, .unset, .unset, .unset, .unset, .unset, .unset, .unset, .unset] [(.int ((p3 &&& (255 : Int32)).toUInt32.toUInt16.toUInt32.toInt32)), (.int (0 : Int32)), (.ref b700), (.ref b700), (.ref b699), (.ref b699)])) _
        refine st702 _ ?_
        show Steps p.tables e below (T702.setTop (mkF m 47 #[.val (.int p1), .val (.int p2), .val (.int p3), .val (.int p4), .val .null, .unset, .unset, .unset, .unset, .unset, .unset, .unset, .unset] [(.ref b700), (.ref b699), (.ref b699)])) _
        refine XS.dup X702.here hx rfl (hb hby at_47) rfl rfl ?_
        show Steps p.tables e below (T702.setTop (mkF m 48 #[.val (.int p1), .val (.int p2), .val (.int p3), .val (.int p4), .val .null, .unset, .unset, .unset, .unset, .unset, .unset, .unset, .unset] [(.ref b700), (.ref b700), (.ref b699), (.ref b699)])) _
        refine XS.iconst X702.here hx rfl (hb hby at_48) ?_
        show Steps p.tables e below (T702.setTop (mkF m 49 #[.val (.int p1), .val (.int p2), .val (.int p3), .val (.int p4), .val .null, .unset, .unset, .unset, .unset, .unset, .unset, .unset, .unset] [(.int (1 : Int32)), (.ref b700), (.ref b700), (.ref b699), (.ref b699)])) _
        refine XS.iloadN X702.here hx rfl (hb hby at_49) rfl ?_
        show Steps p.tables e below (T702.setTop (mkF m 50 #[.val (.int p1), .val (.int p2), .val (.int p3), .val (.int p4), .val .null, .unset, .unset, .unset, .unset, .unset, .unset, .unset, .unset] [(.int p3), (.int (1 : Int32)), (.ref b700), (.ref b700), (.ref b699), (.ref b699)])) _
        refine XS.bipush X702.here hx rfl (hb hby at_50) ?_
        show Steps p.tables e below (T702.setTop (mkF m 52 #[.val (.int p1), .val (.int p2), .val (.int p3), .val (.int p4), .val .null, .unset, .unset, .unset, .unset, .unset, .unset, .unset, .unset] [(.int (8 : Int32)), (.int p3), (.int (1 : Int32)), (.ref b700), (.ref b700), (.ref b699), (.ref b699)])) _
        refine XS.iushr X702.here hx rfl (hb hby at_52) rfl ?_
        show Steps p.tables e below (T702.setTop (mkF m 53 #[.val (.int p1), .val (.int p2), .val (.int p3), .val (.int p4), .val .null, .unset, .unset, .unset, .unset, .unset, .unset, .unset, .unset] [(.int ((p3.toUInt32 >>> ((8 : Int32) &&& 31).toUInt32).toInt32)), (.int (1 : Int32)), (.ref b700), (.ref b700), (.ref b699), (.ref b699)])) _
        refine XS.sipush X702.here hx rfl (hb hby at_53) ?_
        show Steps p.tables e below (T702.setTop (mkF m 56 #[.val (.int p1), .val (.int p2), .val (.int p3), .val (.int p4), .val .null, .unset, .unset, .unset, .unset, .unset, .unset, .unset, .unset] [(.int (255 : Int32)), (.int ((p3.toUInt32 >>> ((8 : Int32) &&& 31).toUInt32).toInt32)), (.int (1 : Int32)), (.ref b700), (.ref b700), (.ref b699), (.ref b699)])) _
        refine XS.iand X702.here hx rfl (hb hby at_56) rfl ?_
        show Steps p.tables e below (T702.setTop (mkF m 57 #[.val (.int p1), .val (.int p2), .val (.int p3), .val (.int p4), .val .null, .unset, .unset, .unset, .unset, .unset, .unset, .unset, .unset] [(.int (((p3.toUInt32 >>> ((8 : Int32) &&& 31).toUInt32).toInt32) &&& (255 : Int32))), (.int (1 : Int32)), (.ref b700), (.ref b700), (.ref b699), (.ref b699)])) _
        refine XS.i2c X702.here hx rfl (hb hby at_57) rfl ?_
        show Steps p.tables e below (T702.setTop (mkF m 58 #[.val (.int p1), .val (.int p2), .val (.int p3), .val (.int p4), .val .null, .unset, .unset, .unset, .unset, .unset, .unset, .unset, .unset] [(.int ((((p3.toUInt32 >>> ((8 : Int32) &&& 31).toUInt32).toInt32) &&& (255 : Int32)).toUInt32.toUInt16.toUInt32.toInt32)), (.int (1 : Int32)), (.ref b700), (.ref b700), (.ref b699), (.ref b699)])) _
        refine st704 _ ?_
        show Steps p.tables e below (T704.setTop (mkF m 59 #[.val (.int p1), .val (.int p2), .val (.int p3), .val (.int p4), .val .null, .unset, .unset, .unset, .unset, .unset, .unset, .unset, .unset] [(.ref b700), (.ref b699), (.ref b699)])) _
        refine st705.trans ?_
        show Steps p.tables e below (T705.setTop (mkF m 62 #[.val (.int p1), .val (.int p2), .val (.int p3), .val (.int p4), .val .null, .unset, .unset, .unset, .unset, .unset, .unset, .unset, .unset] [(.ref b699)])) _
        refine XS.astore X705.here hx rfl (hb hby at_62) rfl rfl (l' := #[.val (.int p1), .val (.int p2), .val (.int p3), .val (.int p4), .val .null, .val (.ref b699), .unset, .unset, .unset, .unset, .unset, .unset, .unset]) rfl ?_
        show Steps p.tables e below (T705.setTop (mkF m 64 #[.val (.int p1), .val (.int p2), .val (.int p3), .val (.int p4), .val .null, .val (.ref b699), .unset, .unset, .unset, .unset, .unset, .unset, .unset] [])) _
        refine XS.iloadN X705.here hx rfl (hb hby at_64) rfl ?_
        show Steps p.tables e below (T705.setTop (mkF m 65 #[.val (.int p1), .val (.int p2), .val (.int p3), .val (.int p4), .val .null, .val (.ref b699), .unset, .unset, .unset, .unset, .unset, .unset, .unset] [(.int p1)])) _
        refine XS.iconst X705.here hx rfl (hb hby at_65) ?_
        show Steps p.tables e below (T705.setTop (mkF m 66 #[.val (.int p1), .val (.int p2), .val (.int p3), .val (.int p4), .val .null, .val (.ref b699), .unset, .unset, .unset, .unset, .unset, .unset, .unset] [(.int (4 : Int32)), (.int p1)])) _
        refine XS.iand X705.here hx rfl (hb hby at_66) rfl ?_
        exact kt
      by_cases hc719 : (p1 &&& (4 : Int32)) = (0 : Int32)
      · skip
        obtain ⟨T721, h721, X721, e721, E721, A721, D721, -, st721⟩ := newO X705 hx hZ hown (tw hw 26 rfl) (tw hw 10 rfl) (tw hw 2 rfl) rfl (g := (mkF m 74 #[.val (.int p1), .val (.int p2), .val (.int p3), .val (.int p4), .val .null, .val (.ref b699), .unset, .unset, .unset, .unset, .unset, .unset, .unset] [])) rfl (hb hby at_74) (by decide) (by decide)
        obtain ⟨b721, g721⟩ : ∃ z, z = T705.heap.size := ⟨_, rfl⟩
        rw [← g721] at A721 D721 st721
        have lt721 : @LT.lt Nat _ b721 h721.size := A721.lt
        have K721 : Keep T705.heap h721 [] := (Keep.refl _ _).ext E721
        have sz6_K721 := K721.1
        have F721_value : Fld Z h721 b721 "java/lang/String" "value" "[B" .null := D721 (Or.inr (tw hw 23 rfl)) (ty := (.array .byte)) (by decide)
        have F721_coder : Fld Z h721 b721 "java/lang/String" "coder" "B" (.int (0 : Int32)) := D721 (Or.inr (tw hw 25 rfl)) (ty := .byte) (by decide)
        obtain ⟨T722, h722, k722, X722, e722, E722, A722, st722⟩ := newP X721 hx hZ (tw hw 27 rfl) e721 (g := (mkF m 79 #[.val (.int p1), .val (.int p2), .val (.int p3), .val (.int p4), .val .null, .val (.ref b699), .unset, .unset, .unset, .unset, .unset, .unset, .unset] [(.int (3 : Int32)), (.ref b721), (.ref b721)])) rfl (hb hby at_79) rfl (by decide) (cap := 3) (by decide) (by decide) (by decide) (by decide)
        obtain ⟨b722, g722⟩ : ∃ z, z = h721.size := ⟨_, rfl⟩
        rw [← g722] at A722 st722
        have V722 : Arv Z h722 b722 k722 .char (3 : Int32) [(.int (0 : Int32)), (.int (0 : Int32)), (.int (0 : Int32))] (.int (0 : Int32)) := (Arv.new A722 (by decide)).pad (pad_rep [] (.int (0 : Int32)) 3)
        have lt722 : @LT.lt Nat _ b722 h722.size := V722.lt
        have K722 : Keep h721 h722 [] := (Keep.refl _ _).ext E722
        have sz7_K722 := K722.1
        obtain ⟨cl723, Ar723, q723, S723, Nn723, H723, G723⟩ := V722
        obtain ⟨T724, h724, X724, e724, W724, st724⟩ := stC X722 hx hZ e722 Ar723 (j := (0 : Int32)) (inb_of S723 ⟨by decide, by decide⟩) (g := (mkF m 89 #[.val (.int p1), .val (.int p2), .val (.int p3), .val (.int p4), .val .null, .val (.ref b699), .unset, .unset, .unset, .unset, .unset, .unset, .unset] [(.int ((p4 &&& (255 : Int32)).toUInt32.toUInt16.toUInt32.toInt32)), (.int (0 : Int32)), (.ref b722), (.ref b722), (.ref b721), (.ref b721)])) rfl rfl (hb hby at_89)
        have V724 : Arv Z h724 b722 k722 .char (3 : Int32) [(.int (((p4 &&& (255 : Int32)).toUInt32.toUInt16.toUInt32.toInt32).toUInt32.toUInt16.toUInt32.toInt32)), (.int (0 : Int32)), (.int (0 : Int32))] (.int (0 : Int32)) := Arv.set Ar723 q723 S723 Nn723 H723 G723 (fits_nar_char _) W724 0 rfl (Nat.le_of_ble_eq_true rfl)
        have K724 := Keep.of_wr W724
        have N724 := Fr.snoc X724 N705 (by omega : @LE.le Nat _ n0 b722)
        have sz8_K724 := K724.1
        obtain ⟨cl725, Ar725, q725, S725, Nn725, H725, G725⟩ := V724
        obtain ⟨T726, h726, X726, e726, W726, st726⟩ := stC X724 hx hZ e724 Ar725 (j := (1 : Int32)) (inb_of S725 ⟨by decide, by decide⟩) (g := (mkF m 101 #[.val (.int p1), .val (.int p2), .val (.int p3), .val (.int p4), .val .null, .val (.ref b699), .unset, .unset, .unset, .unset, .unset, .unset, .unset] [(.int ((((p4.toUInt32 >>> ((8 : Int32) &&& 31).toUInt32).toInt32) &&& (255 : Int32)).toUInt32.toUInt16.toUInt32.toInt32)), (.int (1 : Int32)), (.ref b722), (.ref b722), (.ref b721), (.ref b721)])) rfl rfl (hb hby at_101)
        have V726 : Arv Z h726 b722 k722 .char (3 : Int32) [(.int (((p4 &&& (255 : Int32)).toUInt32.toUInt16.toUInt32.toInt32).toUInt32.toUInt16.toUInt32.toInt32)), (.int (((((p4.toUInt32 >>> ((8 : Int32) &&& 31).toUInt32).toInt32) &&& (255 : Int32)).toUInt32.toUInt16.toUInt32.toInt32).toUInt32.toUInt16.toUInt32.toInt32)), (.int (0 : Int32))] (.int (0 : Int32)) := Arv.set Ar725 q725 S725 Nn725 H725 G725 (fits_nar_char _) W726 1 rfl (Nat.le_of_ble_eq_true rfl)
        have K726 := Keep.of_wr W726
        have N726 := Fr.snoc X726 N724 (by omega : @LE.le Nat _ n0 b722)
        have sz9_K726 := K726.1
        obtain ⟨cl727, Ar727, q727, S727, Nn727, H727, G727⟩ := V726
        obtain ⟨T728, h728, X728, e728, W728, st728⟩ := stC X726 hx hZ e726 Ar727 (j := (2 : Int32)) (inb_of S727 ⟨by decide, by decide⟩) (g := (mkF m 113 #[.val (.int p1), .val (.int p2), .val (.int p3), .val (.int p4), .val .null, .val (.ref b699), .unset, .unset, .unset, .unset, .unset, .unset, .unset] [(.int ((((p4.toUInt32 >>> ((16 : Int32) &&& 31).toUInt32).toInt32) &&& (255 : Int32)).toUInt32.toUInt16.toUInt32.toInt32)), (.int (2 : Int32)), (.ref b722), (.ref b722), (.ref b721), (.ref b721)])) rfl rfl (hb hby at_113)
        have V728 : Arv Z h728 b722 k722 .char (3 : Int32) [(.int (((p4 &&& (255 : Int32)).toUInt32.toUInt16.toUInt32.toInt32).toUInt32.toUInt16.toUInt32.toInt32)), (.int (((((p4.toUInt32 >>> ((8 : Int32) &&& 31).toUInt32).toInt32) &&& (255 : Int32)).toUInt32.toUInt16.toUInt32.toInt32).toUInt32.toUInt16.toUInt32.toInt32)), (.int (((((p4.toUInt32 >>> ((16 : Int32) &&& 31).toUInt32).toInt32) &&& (255 : Int32)).toUInt32.toUInt16.toUInt32.toInt32).toUInt32.toUInt16.toUInt32.toInt32))] (.int (0 : Int32)) := Arv.set Ar727 q727 S727 Nn727 H727 G727 (fits_nar_char _) W728 2 rfl (Nat.le_of_ble_eq_true rfl)
        have K728 := Keep.of_wr W728
        have N728 := Fr.snoc X728 N726 (by omega : @LE.le Nat _ n0 b722)
        have sz10_K728 := K728.1
        have C730 := A721.keep K722
        have C731 := C730.keep K724
        have C732 := C731.keep K726
        have C733 := C732.keep K728
        have C734 := F721_value.keep K722 nin0
        have C735 := C734.keep K724 (ninS (by omega : @Ne Nat b721 b722) (nin0))
        have C736 := C735.keep K726 (ninS (by omega : @Ne Nat b721 b722) (nin0))
        have C737 := C736.keep K728 (ninS (by omega : @Ne Nat b721 b722) (nin0))
        have C738 := F721_coder.keep K722 nin0
        have C739 := C738.keep K724 (ninS (by omega : @Ne Nat b721 b722) (nin0))
        have C740 := C739.keep K726 (ninS (by omega : @Ne Nat b721 b722) (nin0))
        have C741 := C740.keep K728 (ninS (by omega : @Ne Nat b721 b722) (nin0))
        have O742 : Old Z n0 T705.heap := O718.keep K705 (allS (by omega) (all0))
        have O743 : Old Z n0 h721 := O742.keep K721 all0
        have O744 : Old Z n0 h722 := O743.keep K722 all0
        have O745 : Old Z n0 h724 := O744.keep K724 (allS (by omega) (all0))
        have O746 : Old Z n0 h726 := O745.keep K726 (allS (by omega) (all0))
        have O747 : Old Z n0 h728 := O746.keep K728 (allS (by omega) (all0))
        obtain ⟨_, _, ⟨T729, L729, k729, n729⟩, -, X729, ⟨Lc729, hQ729, l729, y729, z729⟩, st729⟩ := X728.specialBack hx (y := (⟨"java/lang/String", "<init>", "([C)V"⟩ : MethodName)) rfl hown (mvT hZ (tw hw 28 rfl)) (mvT hZ (tw hw 29 rfl)) (mvT hZ (tw hw 30 rfl)) (by decide) (StrChars.Road.backV (W := 1) hZ hws (kI := 4) (tw hw 10 rfl) (cs := ([(((p4 &&& (255 : Int32)).toUInt32.toUInt16.toUInt32.toInt32).toUInt32.toUInt16.toUInt32.toInt32), (((((p4.toUInt32 >>> ((8 : Int32) &&& 31).toUInt32).toInt32) &&& (255 : Int32)).toUInt32.toUInt16.toUInt32.toInt32).toUInt32.toUInt16.toUInt32.toInt32), (((((p4.toUInt32 >>> ((16 : Int32) &&& 31).toUInt32).toInt32) &&& (255 : Int32)).toUInt32.toUInt16.toUInt32.toInt32).toUInt32.toUInt16.toUInt32.toInt32)] : List Int32)) (bs := ([(((p4 &&& (255 : Int32)).toUInt32.toUInt16.toUInt32.toInt32).toUInt32.toUInt16.toUInt32.toInt32), (((((p4.toUInt32 >>> ((8 : Int32) &&& 31).toUInt32).toInt32) &&& (255 : Int32)).toUInt32.toUInt16.toUInt32.toInt32).toUInt32.toUInt16.toUInt32.toInt32), (((((p4.toUInt32 >>> ((16 : Int32) &&& 31).toUInt32).toInt32) &&& (255 : Int32)).toUInt32.toUInt16.toUInt32.toInt32).toUInt32.toUInt16.toUInt32.toInt32)] : List Int32).map (fun c => c.toInt8.toInt32)) (n := 3) (by omega : @LE.le Nat _ n0 b721) (by omega) C733 C737 C741 V728 (Sta.ext O747.2 S_CS) c_CS rfl rfl (by decide) (by decide) (by intro d hd; simp only [List.mem_cons, List.not_mem_nil, or_false] at hd; rcases hd with rfl | rfl | rfl <;> exact own_byte _) rfl (by decide) (by decide)) (g := (mkF m 114 #[.val (.int p1), .val (.int p2), .val (.int p3), .val (.int p4), .val .null, .val (.ref b699), .unset, .unset, .unset, .unset, .unset, .unset, .unset] [(.ref b722), (.ref b721), (.ref b721)])) rfl (by rw [hml]; rfl) (Steps.refl _) (a := b721) (argsL := [(.ref b722)]) (rest := [(.ref b721)]) (lenOf pd_5 rfl) rfl (by show 2 * 0 + _ ≤ _; exact Nat.le_of_eq rfl) (hb hby at_114) (fun _ _ => ⟨rfl, e728, (by decide : 5 + 1 ≤ _), (by decide : 15 + 3 ≤ _)⟩)
        dsimp only [Pt.U, Pt.locs, Pt.cells, Pt.slots] at X729 l729 y729 z729 st729 hQ729
        subst l729 y729 z729
        obtain ⟨rfl, N729q, K729, E729, C729, t729, kb729, ge729, gh729, tx729, Vf729, Av729⟩ := hQ729
        have lt729 : @LT.lt Nat _ t729 T729.heap.size := Av729.lt
        have sz11_K729 := K729.1
        have N729 := Fr.app N728 N729q
        have pre749 : ∀ t, Steps p.tables e below (T729.setTop (mkF m 123 #[.val (.int p1), .val (.int p2), .val (.int p3), .val (.int p4), .val .null, .val (.ref b699), .val (.ref b721), .unset, .unset, .unset, .unset, .unset, .unset] [(.int (p1 &&& (8 : Int32)))])) t → Steps p.tables e below (s₁.setTop (entryFrame m #[(.int p1), (.int p2), (.int p3), (.int p4)] maxLocals)) t := by
          intro t kt
          refine pre720 _ ?_
          show Steps p.tables e below (T705.setTop (mkF m 67 #[.val (.int p1), .val (.int p2), .val (.int p3), .val (.int p4), .val .null, .val (.ref b699), .unset, .unset, .unset, .unset, .unset, .unset, .unset] [(.int (p1 &&& (4 : Int32)))])) _
          refine XS.ifYes X705.here hx rfl (pc0 := 67) (pc' := 74) rfl (hb hby at_67) rfl ((if0 _ _).trans (teq hc719).1) (by decide) (by decide) ?_
          show Steps p.tables e below (T705.setTop (mkF m 74 #[.val (.int p1), .val (.int p2), .val (.int p3), .val (.int p4), .val .null, .val (.ref b699), .unset, .unset, .unset, .unset, .unset, .unset, .unset] [])) _
          refine st721 _ ?_
          show Steps p.tables e below (T721.setTop (mkF m 77 #[.val (.int p1), .val (.int p2), .val (.int p3), .val (.int p4), .val .null, .val (.ref b699), .unset, .unset, .unset, .unset, .unset, .unset, .unset] [(.ref b721)])) _
          refine XS.dup X721.here hx rfl (hb hby at_77) rfl rfl ?_
          show Steps p.tables e below (T721.setTop (mkF m 78 #[.val (.int p1), .val (.int p2), .val (.int p3), .val (.int p4), .val .null, .val (.ref b699), .unset, .unset, .unset, .unset, .unset, .unset, .unset] [(.ref b721), (.ref b721)])) _
          refine XS.iconst X721.here hx rfl (hb hby at_78) ?_
          show Steps p.tables e below (T721.setTop (mkF m 79 #[.val (.int p1), .val (.int p2), .val (.int p3), .val (.int p4), .val .null, .val (.ref b699), .unset, .unset, .unset, .unset, .unset, .unset, .unset] [(.int (3 : Int32)), (.ref b721), (.ref b721)])) _
          refine st722 _ ?_
          show Steps p.tables e below (T722.setTop (mkF m 81 #[.val (.int p1), .val (.int p2), .val (.int p3), .val (.int p4), .val .null, .val (.ref b699), .unset, .unset, .unset, .unset, .unset, .unset, .unset] [(.ref b722), (.ref b721), (.ref b721)])) _
          refine XS.dup X722.here hx rfl (hb hby at_81) rfl rfl ?_
          show Steps p.tables e below (T722.setTop (mkF m 82 #[.val (.int p1), .val (.int p2), .val (.int p3), .val (.int p4), .val .null, .val (.ref b699), .unset, .unset, .unset, .unset, .unset, .unset, .unset] [(.ref b722), (.ref b722), (.ref b721), (.ref b721)])) _
          refine XS.iconst X722.here hx rfl (hb hby at_82) ?_
          show Steps p.tables e below (T722.setTop (mkF m 83 #[.val (.int p1), .val (.int p2), .val (.int p3), .val (.int p4), .val .null, .val (.ref b699), .unset, .unset, .unset, .unset, .unset, .unset, .unset] [(.int (0 : Int32)), (.ref b722), (.ref b722), (.ref b721), (.ref b721)])) _
          refine XS.iloadN X722.here hx rfl (hb hby at_83) rfl ?_
          show Steps p.tables e below (T722.setTop (mkF m 84 #[.val (.int p1), .val (.int p2), .val (.int p3), .val (.int p4), .val .null, .val (.ref b699), .unset, .unset, .unset, .unset, .unset, .unset, .unset] [(.int p4), (.int (0 : Int32)), (.ref b722), (.ref b722), (.ref b721), (.ref b721)])) _
          refine XS.sipush X722.here hx rfl (hb hby at_84) ?_
          show Steps p.tables e below (T722.setTop (mkF m 87 #[.val (.int p1), .val (.int p2), .val (.int p3), .val (.int p4), .val .null, .val (.ref b699), .unset, .unset, .unset, .unset, .unset, .unset, .unset] [(.int (255 : Int32)), (.int p4), (.int (0 : Int32)), (.ref b722), (.ref b722), (.ref b721), (.ref b721)])) _
          refine XS.iand X722.here hx rfl (hb hby at_87) rfl ?_
          show Steps p.tables e below (T722.setTop (mkF m 88 #[.val (.int p1), .val (.int p2), .val (.int p3), .val (.int p4), .val .null, .val (.ref b699), .unset, .unset, .unset, .unset, .unset, .unset, .unset] [(.int (p4 &&& (255 : Int32))), (.int (0 : Int32)), (.ref b722), (.ref b722), (.ref b721), (.ref b721)])) _
          refine XS.i2c X722.here hx rfl (hb hby at_88) rfl ?_
          show Steps p.tables e below (T722.setTop (mkF m 89 #[.val (.int p1), .val (.int p2), .val (.int p3), .val (.int p4), .val .null, .val (.ref b699), .unset, .unset, .unset, .unset, .unset, .unset, .unset] [(.int ((p4 &&& (255 : Int32)).toUInt32.toUInt16.toUInt32.toInt32)), (.int (0 : Int32)), (.ref b722), (.ref b722), (.ref b721), (.ref b721)])) _
          refine st724 _ ?_
          show Steps p.tables e below (T724.setTop (mkF m 90 #[.val (.int p1), .val (.int p2), .val (.int p3), .val (.int p4), .val .null, .val (.ref b699), .unset, .unset, .unset, .unset, .unset, .unset, .unset] [(.ref b722), (.ref b721), (.ref b721)])) _
          refine XS.dup X724.here hx rfl (hb hby at_90) rfl rfl ?_
          show Steps p.tables e below (T724.setTop (mkF m 91 #[.val (.int p1), .val (.int p2), .val (.int p3), .val (.int p4), .val .null, .val (.ref b699), .unset, .unset, .unset, .unset, .unset, .unset, .unset] [(.ref b722), (.ref b722), (.ref b721), (.ref b721)])) _
          refine XS.iconst X724.here hx rfl (hb hby at_91) ?_
          show Steps p.tables e below (T724.setTop (mkF m 92 #[.val (.int p1), .val (.int p2), .val (.int p3), .val (.int p4), .val .null, .val (.ref b699), .unset, .unset, .unset, .unset, .unset, .unset, .unset] [(.int (1 : Int32)), (.ref b722), (.ref b722), (.ref b721), (.ref b721)])) _
          refine XS.iloadN X724.here hx rfl (hb hby at_92) rfl ?_
          show Steps p.tables e below (T724.setTop (mkF m 93 #[.val (.int p1), .val (.int p2), .val (.int p3), .val (.int p4), .val .null, .val (.ref b699), .unset, .unset, .unset, .unset, .unset, .unset, .unset] [(.int p4), (.int (1 : Int32)), (.ref b722), (.ref b722), (.ref b721), (.ref b721)])) _
          refine XS.bipush X724.here hx rfl (hb hby at_93) ?_
          show Steps p.tables e below (T724.setTop (mkF m 95 #[.val (.int p1), .val (.int p2), .val (.int p3), .val (.int p4), .val .null, .val (.ref b699), .unset, .unset, .unset, .unset, .unset, .unset, .unset] [(.int (8 : Int32)), (.int p4), (.int (1 : Int32)), (.ref b722), (.ref b722), (.ref b721), (.ref b721)])) _
          refine XS.iushr X724.here hx rfl (hb hby at_95) rfl ?_
          show Steps p.tables e below (T724.setTop (mkF m 96 #[.val (.int p1), .val (.int p2), .val (.int p3), .val (.int p4), .val .null, .val (.ref b699), .unset, .unset, .unset, .unset, .unset, .unset, .unset] [(.int ((p4.toUInt32 >>> ((8 : Int32) &&& 31).toUInt32).toInt32)), (.int (1 : Int32)), (.ref b722), (.ref b722), (.ref b721), (.ref b721)])) _
          refine XS.sipush X724.here hx rfl (hb hby at_96) ?_
          show Steps p.tables e below (T724.setTop (mkF m 99 #[.val (.int p1), .val (.int p2), .val (.int p3), .val (.int p4), .val .null, .val (.ref b699), .unset, .unset, .unset, .unset, .unset, .unset, .unset] [(.int (255 : Int32)), (.int ((p4.toUInt32 >>> ((8 : Int32) &&& 31).toUInt32).toInt32)), (.int (1 : Int32)), (.ref b722), (.ref b722), (.ref b721), (.ref b721)])) _
          refine XS.iand X724.here hx rfl (hb hby at_99) rfl ?_
          show Steps p.tables e below (T724.setTop (mkF m 100 #[.val (.int p1), .val (.int p2), .val (.int p3), .val (.int p4), .val .null, .val (.ref b699), .unset, .unset, .unset, .unset, .unset, .unset, .unset] [(.int (((p4.toUInt32 >>> ((8 : Int32) &&& 31).toUInt32).toInt32) &&& (255 : Int32))), (.int (1 : Int32)), (.ref b722), (.ref b722), (.ref b721), (.ref b721)])) _
          refine XS.i2c X724.here hx rfl (hb hby at_100) rfl ?_
          show Steps p.tables e below (T724.setTop (mkF m 101 #[.val (.int p1), .val (.int p2), .val (.int p3), .val (.int p4), .val .null, .val (.ref b699), .unset, .unset, .unset, .unset, .unset, .unset, .unset] [(.int ((((p4.toUInt32 >>> ((8 : Int32) &&& 31).toUInt32).toInt32) &&& (255 : Int32)).toUInt32.toUInt16.toUInt32.toInt32)), (.int (1 : Int32)), (.ref b722), (.ref b722), (.ref b721), (.ref b721)])) _
          refine st726 _ ?_
          show Steps p.tables e below (T726.setTop (mkF m 102 #[.val (.int p1), .val (.int p2), .val (.int p3), .val (.int p4), .val .null, .val (.ref b699), .unset, .unset, .unset, .unset, .unset, .unset, .unset] [(.ref b722), (.ref b721), (.ref b721)])) _
          refine XS.dup X726.here hx rfl (hb hby at_102) rfl rfl ?_
          show Steps p.tables e below (T726.setTop (mkF m 103 #[.val (.int p1), .val (.int p2), .val (.int p3), .val (.int p4), .val .null, .val (.ref b699), .unset, .unset, .unset, .unset, .unset, .unset, .unset] [(.ref b722), (.ref b722), (.ref b721), (.ref b721)])) _
          refine XS.iconst X726.here hx rfl (hb hby at_103) ?_
          show Steps p.tables e below (T726.setTop (mkF m 104 #[.val (.int p1), .val (.int p2), .val (.int p3), .val (.int p4), .val .null, .val (.ref b699), .unset, .unset, .unset, .unset, .unset, .unset, .unset] [(.int (2 : Int32)), (.ref b722), (.ref b722), (.ref b721), (.ref b721)])) _
          refine XS.iloadN X726.here hx rfl (hb hby at_104) rfl ?_
          show Steps p.tables e below (T726.setTop (mkF m 105 #[.val (.int p1), .val (.int p2), .val (.int p3), .val (.int p4), .val .null, .val (.ref b699), .unset, .unset, .unset, .unset, .unset, .unset, .unset] [(.int p4), (.int (2 : Int32)), (.ref b722), (.ref b722), (.ref b721), (.ref b721)])) _
          refine XS.bipush X726.here hx rfl (hb hby at_105) ?_
          show Steps p.tables e below (T726.setTop (mkF m 107 #[.val (.int p1), .val (.int p2), .val (.int p3), .val (.int p4), .val .null, .val (.ref b699), .unset, .unset, .unset, .unset, .unset, .unset, .unset] [(.int (16 : Int32)), (.int p4), (.int (2 : Int32)), (.ref b722), (.ref b722), (.ref b721), (.ref b721)])) _
          refine XS.iushr X726.here hx rfl (hb hby at_107) rfl ?_
          show Steps p.tables e below (T726.setTop (mkF m 108 #[.val (.int p1), .val (.int p2), .val (.int p3), .val (.int p4), .val .null, .val (.ref b699), .unset, .unset, .unset, .unset, .unset, .unset, .unset] [(.int ((p4.toUInt32 >>> ((16 : Int32) &&& 31).toUInt32).toInt32)), (.int (2 : Int32)), (.ref b722), (.ref b722), (.ref b721), (.ref b721)])) _
          refine XS.sipush X726.here hx rfl (hb hby at_108) ?_
          show Steps p.tables e below (T726.setTop (mkF m 111 #[.val (.int p1), .val (.int p2), .val (.int p3), .val (.int p4), .val .null, .val (.ref b699), .unset, .unset, .unset, .unset, .unset, .unset, .unset] [(.int (255 : Int32)), (.int ((p4.toUInt32 >>> ((16 : Int32) &&& 31).toUInt32).toInt32)), (.int (2 : Int32)), (.ref b722), (.ref b722), (.ref b721), (.ref b721)])) _
          refine XS.iand X726.here hx rfl (hb hby at_111) rfl ?_
          show Steps p.tables e below (T726.setTop (mkF m 112 #[.val (.int p1), .val (.int p2), .val (.int p3), .val (.int p4), .val .null, .val (.ref b699), .unset, .unset, .unset, .unset, .unset, .unset, .unset] [(.int (((p4.toUInt32 >>> ((16 : Int32) &&& 31).toUInt32).toInt32) &&& (255 : Int32))), (.int (2 : Int32)), (.ref b722), (.ref b722), (.ref b721), (.ref b721)])) _
          refine XS.i2c X726.here hx rfl (hb hby at_112) rfl ?_
          show Steps p.tables e below (T726.setTop (mkF m 113 #[.val (.int p1), .val (.int p2), .val (.int p3), .val (.int p4), .val .null, .val (.ref b699), .unset, .unset, .unset, .unset, .unset, .unset, .unset] [(.int ((((p4.toUInt32 >>> ((16 : Int32) &&& 31).toUInt32).toInt32) &&& (255 : Int32)).toUInt32.toUInt16.toUInt32.toInt32)), (.int (2 : Int32)), (.ref b722), (.ref b722), (.ref b721), (.ref b721)])) _
          refine st728 _ ?_
          show Steps p.tables e below (T728.setTop (mkF m 114 #[.val (.int p1), .val (.int p2), .val (.int p3), .val (.int p4), .val .null, .val (.ref b699), .unset, .unset, .unset, .unset, .unset, .unset, .unset] [(.ref b722), (.ref b721), (.ref b721)])) _
          refine st729.trans ?_
          show Steps p.tables e below (T729.setTop (mkF m 117 #[.val (.int p1), .val (.int p2), .val (.int p3), .val (.int p4), .val .null, .val (.ref b699), .unset, .unset, .unset, .unset, .unset, .unset, .unset] [(.ref b721)])) _
          refine XS.astore X729.here hx rfl (hb hby at_117) rfl rfl (l' := #[.val (.int p1), .val (.int p2), .val (.int p3), .val (.int p4), .val .null, .val (.ref b699), .val (.ref b721), .unset, .unset, .unset, .unset, .unset, .unset]) rfl ?_
          show Steps p.tables e below (T729.setTop (mkF m 119 #[.val (.int p1), .val (.int p2), .val (.int p3), .val (.int p4), .val .null, .val (.ref b699), .val (.ref b721), .unset, .unset, .unset, .unset, .unset, .unset] [])) _
          refine XS.iloadN X729.here hx rfl (hb hby at_119) rfl ?_
          show Steps p.tables e below (T729.setTop (mkF m 120 #[.val (.int p1), .val (.int p2), .val (.int p3), .val (.int p4), .val .null, .val (.ref b699), .val (.ref b721), .unset, .unset, .unset, .unset, .unset, .unset] [(.int p1)])) _
          refine XS.bipush X729.here hx rfl (hb hby at_120) ?_
          show Steps p.tables e below (T729.setTop (mkF m 122 #[.val (.int p1), .val (.int p2), .val (.int p3), .val (.int p4), .val .null, .val (.ref b699), .val (.ref b721), .unset, .unset, .unset, .unset, .unset, .unset] [(.int (8 : Int32)), (.int p1)])) _
          refine XS.iand X729.here hx rfl (hb hby at_122) rfl ?_
          exact kt
        by_cases hc748 : (p1 &&& (8 : Int32)) = (0 : Int32)
        · skip
          obtain ⟨T750, h750, k750, X750, e750, E750, A750, O750, st750⟩ := newR X729 hx hZ hown (tw hw 26 rfl) (tw hw 44 rfl) rfl (g := (mkF m 143 #[.val (.int p1), .val (.int p2), .val (.int p3), .val (.int p4), .val .null, .val (.ref b699), .val (.ref b721), .val (.int (0 : Int32)), .unset, .unset, .unset, .unset, .unset] [(.int (3 : Int32))])) rfl (hb hby at_143) rfl (by decide) (cap := 3) (by decide) (by decide) (by decide) (by decide)
          obtain ⟨b750, g750⟩ : ∃ z, z = T729.heap.size := ⟨_, rfl⟩
          rw [← g750] at A750 st750
          have V750 : Arv Z h750 b750 k750 (.object "java/lang/String") (3 : Int32) [.null, .null, .null] .null := (Arv.new A750 (by decide)).pad (pad_rep [] .null 3)
          have lt750 : @LT.lt Nat _ b750 h750.size := V750.lt
          have K750 : Keep T729.heap h750 [] := (Keep.refl _ _).ext E750
          have sz12_K750 := K750.1
          obtain ⟨cl751, Ar751, q751, S751, Nn751, H751, G751⟩ := V750
          obtain ⟨T752, h752, X752, e752, W752, st752⟩ := stR X750 hx hZ e750 Ar751 (j := (0 : Int32)) (inb_of S751 ⟨by decide, by decide⟩) rfl (Or.inl rfl) (g := (mkF m 150 #[.val (.int p1), .val (.int p2), .val (.int p3), .val (.int p4), .val .null, .val (.ref b699), .val (.ref b721), .val (.int (0 : Int32)), .unset, .unset, .unset, .unset, .unset] [.null, (.int (0 : Int32)), (.ref b750), (.ref b750)])) rfl rfl (hb hby at_150)
          have V752 : Arv Z h752 b750 k750 (.object "java/lang/String") (3 : Int32) [.null, .null, .null] .null := Arv.set Ar751 q751 S751 Nn751 H751 G751 rfl W752 0 rfl (Nat.le_of_ble_eq_true rfl)
          have K752 := Keep.of_wr W752
          have N752 := Fr.snoc X752 N729 (by omega : @LE.le Nat _ n0 b750)
          have sz13_K752 := K752.1
          obtain ⟨cl753, Ar753, q753, S753, Nn753, H753, G753⟩ := V752
          have C754 := E705.keep K721
          have C755 := C754.keep K722
          have C756 := C755.keep K724
          have C757 := C756.keep K726
          have C758 := C757.keep K728
          have C759 := C758.keep K729
          have C760 := C759.keep K750
          have C761 := C760.keep K752
          obtain ⟨T762, h762, X762, e762, W762, st762⟩ := stR X752 hx hZ e752 Ar753 (j := (1 : Int32)) (inb_of S753 ⟨by decide, by decide⟩) rfl (Sto.ofV Ar753 q753 O750 (Ins.self C761)) (g := (mkF m 155 #[.val (.int p1), .val (.int p2), .val (.int p3), .val (.int p4), .val .null, .val (.ref b699), .val (.ref b721), .val (.int (0 : Int32)), .unset, .unset, .unset, .unset, .unset] [(.ref b699), (.int (1 : Int32)), (.ref b750), (.ref b750)])) rfl rfl (hb hby at_155)
          have V762 : Arv Z h762 b750 k750 (.object "java/lang/String") (3 : Int32) [.null, (.ref b699), .null] .null := Arv.set Ar753 q753 S753 Nn753 H753 G753 rfl W762 1 rfl (Nat.le_of_ble_eq_true rfl)
          have K762 := Keep.of_wr W762
          have N762 := Fr.snoc X762 N752 (by omega : @LE.le Nat _ n0 b750)
          have sz14_K762 := K762.1
          obtain ⟨cl763, Ar763, q763, S763, Nn763, H763, G763⟩ := V762
          have C764 := E729.keep K750
          have C765 := C764.keep K752
          have C766 := C765.keep K762
          obtain ⟨T767, h767, X767, e767, W767, st767⟩ := stR X762 hx hZ e762 Ar763 (j := (2 : Int32)) (inb_of S763 ⟨by decide, by decide⟩) rfl (Sto.ofV Ar763 q763 O750 (Ins.self C766)) (g := (mkF m 160 #[.val (.int p1), .val (.int p2), .val (.int p3), .val (.int p4), .val .null, .val (.ref b699), .val (.ref b721), .val (.int (0 : Int32)), .unset, .unset, .unset, .unset, .unset] [(.ref b721), (.int (2 : Int32)), (.ref b750), (.ref b750)])) rfl rfl (hb hby at_160)
          have V767 : Arv Z h767 b750 k750 (.object "java/lang/String") (3 : Int32) [.null, (.ref b699), (.ref b721)] .null := Arv.set Ar763 q763 S763 Nn763 H763 G763 rfl W767 2 rfl (Nat.le_of_ble_eq_true rfl)
          have K767 := Keep.of_wr W767
          have N767 := Fr.snoc X767 N762 (by omega : @LE.le Nat _ n0 b750)
          have sz15_K767 := K767.1
          obtain ⟨T768, h768, X768, e768, E768, A768, D768, -, st768⟩ := newO X767 hx hZ hown (tw hw 45 rfl) (tw hw 46 rfl) (tw hw 47 rfl) e767 (g := (mkF m 163 #[.val (.int p1), .val (.int p2), .val (.int p3), .val (.int p4), .val .null, .val (.ref b699), .val (.ref b721), .val (.int (0 : Int32)), .val (.ref b750), .unset, .unset, .unset, .unset] [])) rfl (hb hby at_163) (by decide) (by decide)
          obtain ⟨b768, g768⟩ : ∃ z, z = h767.size := ⟨_, rfl⟩
          rw [← g768] at A768 D768 st768
          have lt768 : @LT.lt Nat _ b768 h768.size := A768.lt
          have K768 : Keep h767 h768 [] := (Keep.refl _ _).ext E768
          have sz16_K768 := K768.1
          have F768_loc : Fld Z h768 b768 "com/example/links_to_sitemap/linkstositemap/SitemapFileWriter$Entry" "loc" "Ljava/lang/String;" .null := D768 (Or.inr (tw hw 56 rfl)) (ty := (.object "java/lang/String")) (by decide)
          have F768_fields : Fld Z h768 b768 "com/example/links_to_sitemap/linkstositemap/SitemapFileWriter$Entry" "fields" "[Ljava/lang/String;" .null := D768 (Or.inr (tw hw 58 rfl)) (ty := (.array (.object "java/lang/String"))) (by decide)
          obtain ⟨b769, T769, h769, k769, X769, e769, E769, hS769, hk769, hZ769, hown769, st769⟩ := ldcS (s := s) (vm0 := s.vm) X768 hx hZ hown (tw hw 48 rfl) wStr e768 hS0 (by omega) (g := (mkF m 167 #[.val (.int p1), .val (.int p2), .val (.int p3), .val (.int p4), .val .null, .val (.ref b699), .val (.ref b721), .val (.int (0 : Int32)), .val (.ref b750), .unset, .unset, .unset, .unset] [(.ref b768), (.ref b768)])) rfl (hb hby at_167) (n := 80) (by decide) (by decide) (by decide) (by decide)
          have K769 : Keep h768 h769 [] := (Keep.refl _ _).ext E769
          have sz17_K769 := K769.1
          have C771 := A768.keep K769
          have C772 := F768_loc.keep K769 nin0
          have C773 := F768_fields.keep K769 nin0
          have O774 : Old Z n0 T729.heap := O747.keep K729 (allS (by omega) (all0))
          have O775 : Old Z n0 h750 := O774.keep K750 all0
          have O776 : Old Z n0 h752 := O775.keep K752 (allS (by omega) (all0))
          have O777 : Old Z n0 h762 := O776.keep K762 (allS (by omega) (all0))
          have O778 : Old Z n0 h767 := O777.keep K767 (allS (by omega) (all0))
          have O779 : Old Z n0 h768 := O778.keep K768 all0
          have O780 : Old Z n0 h769 := O779.keep K769 all0
          obtain ⟨_, _, ⟨T770, L770, k770, n770⟩, -, X770, ⟨Lc770, hQ770, l770, y770, z770⟩, st770⟩ := X769.specialBack hx (y := (⟨"com/example/links_to_sitemap/linkstositemap/SitemapFileWriter$Entry", "<init>", "(Ljava/lang/String;[Ljava/lang/String;)V"⟩ : MethodName)) rfl hown769 (mvT hZ769 (tw hw 51 rfl)) (mvT hZ769 (tw hw 52 rfl)) (mvT hZ769 (tw hw 53 rfl)) (by decide) (backOf (W := 1) (rmEntryA l Z a0 hw [] b768 b769 b750  h769 n0 O780 (by omega : @LE.le Nat _ n0 b768) C771 C772 C773) hZ769 (tw hw 53 rfl) (tw hw 47 rfl) (by decide) (by decide)) (g := (mkF m 171 #[.val (.int p1), .val (.int p2), .val (.int p3), .val (.int p4), .val .null, .val (.ref b699), .val (.ref b721), .val (.int (0 : Int32)), .val (.ref b750), .unset, .unset, .unset, .unset] [(.ref b750), (.ref b769), (.ref b768), (.ref b768)])) rfl (by rw [hml]; rfl) (Steps.refl _) (a := b768) (argsL := [(.ref b769), (.ref b750)]) (rest := [(.ref b768)]) (lenOf pd_10 rfl) rfl (by show 2 * 0 + _ ≤ _; exact Nat.le_of_eq rfl) (hb hby at_171) (fun _ _ => ⟨rfl, e769, (by decide : 10 + 0 ≤ _), (by decide : 107 + 0 ≤ _)⟩)
          dsimp only [Pt.U, Pt.locs, Pt.cells, Pt.slots] at X770 l770 y770 z770 st770 hQ770
          subst l770 y770 z770
          obtain ⟨rfl, N770q, K770, E770, F770⟩ := hQ770
          have sz18_K770 := K770.1
          have N770 := Fr.app N767 N770q
          have O781 : Old Z n0 T770.heap := O780.keep K770 (allS (by omega) (all0))
          obtain ⟨T782, X782, e782, st782⟩ := getS2 X770 hx hZ769 hown769 (host := "") (Or.inl (tw hw 59 rfl)) Via.refl rfl (Sta.ext O781.2 S_0) (g := (mkF m 178 #[.val (.int p1), .val (.int p2), .val (.int p3), .val (.int p4), .val .null, .val (.ref b699), .val (.ref b721), .val (.int (0 : Int32)), .val (.ref b750), .val (.ref b768), .unset, .unset, .unset] [(.ref b768)])) rfl (hb hby at_178)
          have C784 := V767.keep K768 nin0
          have C785 := C784.keep K769 nin0
          have C786 := C785.keep K770 (ninS (by omega : @Ne Nat b750 b768) (nin0))
          have C787 := E_0.keep K699
          have C788 := C787.keep K700
          have C789 := C788.keep K702
          have C790 := C789.keep K704
          have C791 := C790.keep K705
          have C792 := C791.keep K721
          have C793 := C792.keep K722
          have C794 := C793.keep K724
          have C795 := C794.keep K726
          have C796 := C795.keep K728
          have C797 := C796.keep K729
          have C798 := C797.keep K750
          have C799 := C798.keep K752
          have C800 := C799.keep K762
          have C801 := C800.keep K767
          have C802 := C801.keep K768
          have C803 := C802.keep K769
          have C804 := C803.keep K770
          have C805 := F_0.keep K699 nin0
          have C806 := C805.keep K700 nin0
          have C807 := C806.keep K702 (ninS (by omega : @Ne Nat lf0 b700) (nin0))
          have C808 := C807.keep K704 (ninS (by omega : @Ne Nat lf0 b700) (nin0))
          have C809 := C808.keep K705 (ninS (by omega : @Ne Nat lf0 b699) (nin0))
          have C810 := C809.keep K721 nin0
          have C811 := C810.keep K722 nin0
          have C812 := C811.keep K724 (ninS (by omega : @Ne Nat lf0 b722) (nin0))
          have C813 := C812.keep K726 (ninS (by omega : @Ne Nat lf0 b722) (nin0))
          have C814 := C813.keep K728 (ninS (by omega : @Ne Nat lf0 b722) (nin0))
          have C815 := C814.keep K729 (ninS (by omega : @Ne Nat lf0 b721) (nin0))
          have C816 := C815.keep K750 nin0
          have C817 := C816.keep K752 (ninS (by omega : @Ne Nat lf0 b750) (nin0))
          have C818 := C817.keep K762 (ninS (by omega : @Ne Nat lf0 b750) (nin0))
          have C819 := C818.keep K767 (ninS (by omega : @Ne Nat lf0 b750) (nin0))
          have C820 := C819.keep K768 nin0
          have C821 := C820.keep K769 nin0
          have C822 := C821.keep K770 (ninS (by omega : @Ne Nat lf0 b768) (nin0))
          obtain ⟨cq783, kq783, q783a, q783b, q783c⟩ := isOf hZ769 e782 E770
          obtain ⟨_, _, ⟨T783, L783, k783, n783⟩, -, X783, ⟨Lc783, hQ783, l783, y783, z783⟩, st783⟩ := X782.virtualBack hx (y := (⟨"com/example/links_to_sitemap/linkstositemap/SitemapFileWriter$Entry", "field", "(Lcom/example/links_to_sitemap/linkstositemap/LinkField;)Ljava/lang/String;"⟩ : MethodName)) (z := (⟨"com/example/links_to_sitemap/linkstositemap/SitemapFileWriter$Entry", "field", "(Lcom/example/links_to_sitemap/linkstositemap/LinkField;)Ljava/lang/String;"⟩ : MethodName)) hown769 (mvT hZ769 (tw hw 62 rfl)) (mvT hZ769 (tw hw 63 rfl)) (notFace_of_selects (args := #[]) (mvT hZ769 (tw hw 65 rfl))) (mvT hZ769 (tw hw 65 rfl)) (mvT hZ769 (tw hw 64 rfl)) (by decide) (backOf (W := 0) (rmFieldA l Z a0 hw [] b768 lf0 b750 k750 [.null, (.ref b699), (.ref b721)] .null (0 : Int32) T770.heap n0 O781 F770 C786 C804 C822 (by decide) (by decide) rfl rfl) hZ769 (tw hw 66 rfl) (tw hw 47 rfl) (by decide) (by decide)) q783a q783c (g := (mkF m 181 #[.val (.int p1), .val (.int p2), .val (.int p3), .val (.int p4), .val .null, .val (.ref b699), .val (.ref b721), .val (.int (0 : Int32)), .val (.ref b750), .val (.ref b768), .unset, .unset, .unset] [(.ref lf0), (.ref b768)])) rfl (by rw [hml]; rfl) (Steps.refl _) (argsL := [(.ref lf0)]) (rest := []) (lenOf pd_11 rfl) rfl (by show 2 * 0 + _ ≤ _; exact Nat.le_of_eq rfl) (hb hby at_181) (fun _ _ => ⟨rfl, e782, (by decide : 10 + 0 ≤ _), (by decide : 107 + 0 ≤ _)⟩)
          dsimp only [Pt.U, Pt.locs, Pt.cells, Pt.slots] at X783 l783 y783 z783 st783 hQ783
          subst l783 y783 z783
          obtain ⟨rfl, N783q, H783⟩ := hQ783
          have N783 := Fr.app N770 N783q
          obtain ⟨T823, X823, e823, st823⟩ := getS2 X783 hx hZ769 hown769 (host := "") (Or.inl (tw hw 76 rfl)) Via.refl H783 (Sta.ext O781.2 S_1) (g := (mkF m 188 #[.val (.int p1), .val (.int p2), .val (.int p3), .val (.int p4), .val .null, .val (.ref b699), .val (.ref b721), .val (.int (0 : Int32)), .val (.ref b750), .val (.ref b768), .val .null, .unset, .unset] [(.ref b768)])) rfl (hb hby at_188)
          have C825 := E_1.keep K699
          have C826 := C825.keep K700
          have C827 := C826.keep K702
          have C828 := C827.keep K704
          have C829 := C828.keep K705
          have C830 := C829.keep K721
          have C831 := C830.keep K722
          have C832 := C831.keep K724
          have C833 := C832.keep K726
          have C834 := C833.keep K728
          have C835 := C834.keep K729
          have C836 := C835.keep K750
          have C837 := C836.keep K752
          have C838 := C837.keep K762
          have C839 := C838.keep K767
          have C840 := C839.keep K768
          have C841 := C840.keep K769
          have C842 := C841.keep K770
          have C843 := F_1.keep K699 nin0
          have C844 := C843.keep K700 nin0
          have C845 := C844.keep K702 (ninS (by omega : @Ne Nat lf1 b700) (nin0))
          have C846 := C845.keep K704 (ninS (by omega : @Ne Nat lf1 b700) (nin0))
          have C847 := C846.keep K705 (ninS (by omega : @Ne Nat lf1 b699) (nin0))
          have C848 := C847.keep K721 nin0
          have C849 := C848.keep K722 nin0
          have C850 := C849.keep K724 (ninS (by omega : @Ne Nat lf1 b722) (nin0))
          have C851 := C850.keep K726 (ninS (by omega : @Ne Nat lf1 b722) (nin0))
          have C852 := C851.keep K728 (ninS (by omega : @Ne Nat lf1 b722) (nin0))
          have C853 := C852.keep K729 (ninS (by omega : @Ne Nat lf1 b721) (nin0))
          have C854 := C853.keep K750 nin0
          have C855 := C854.keep K752 (ninS (by omega : @Ne Nat lf1 b750) (nin0))
          have C856 := C855.keep K762 (ninS (by omega : @Ne Nat lf1 b750) (nin0))
          have C857 := C856.keep K767 (ninS (by omega : @Ne Nat lf1 b750) (nin0))
          have C858 := C857.keep K768 nin0
          have C859 := C858.keep K769 nin0
          have C860 := C859.keep K770 (ninS (by omega : @Ne Nat lf1 b768) (nin0))
          obtain ⟨cq824, kq824, q824a, q824b, q824c⟩ := isOf hZ769 e823 E770
          obtain ⟨_, _, ⟨T824, L824, k824, n824⟩, -, X824, ⟨Lc824, hQ824, l824, y824, z824⟩, st824⟩ := X823.virtualBack hx (y := (⟨"com/example/links_to_sitemap/linkstositemap/SitemapFileWriter$Entry", "field", "(Lcom/example/links_to_sitemap/linkstositemap/LinkField;)Ljava/lang/String;"⟩ : MethodName)) (z := (⟨"com/example/links_to_sitemap/linkstositemap/SitemapFileWriter$Entry", "field", "(Lcom/example/links_to_sitemap/linkstositemap/LinkField;)Ljava/lang/String;"⟩ : MethodName)) hown769 (mvT hZ769 (tw hw 62 rfl)) (mvT hZ769 (tw hw 63 rfl)) (notFace_of_selects (args := #[]) (mvT hZ769 (tw hw 65 rfl))) (mvT hZ769 (tw hw 65 rfl)) (mvT hZ769 (tw hw 64 rfl)) (by decide) (backOf (W := 0) (rmFieldA l Z a0 hw [] b768 lf1 b750 k750 [.null, (.ref b699), (.ref b721)] (.ref b699) (1 : Int32) T770.heap n0 O781 F770 C786 C842 C860 (by decide) (by decide) rfl rfl) hZ769 (tw hw 66 rfl) (tw hw 47 rfl) (by decide) (by decide)) q824a q824c (g := (mkF m 191 #[.val (.int p1), .val (.int p2), .val (.int p3), .val (.int p4), .val .null, .val (.ref b699), .val (.ref b721), .val (.int (0 : Int32)), .val (.ref b750), .val (.ref b768), .val .null, .unset, .unset] [(.ref lf1), (.ref b768)])) rfl (by rw [hml]; rfl) (Steps.refl _) (argsL := [(.ref lf1)]) (rest := []) (lenOf pd_11 rfl) rfl (by show 2 * 0 + _ ≤ _; exact Nat.le_of_eq rfl) (hb hby at_191) (fun _ _ => ⟨rfl, e823, (by decide : 10 + 0 ≤ _), (by decide : 107 + 0 ≤ _)⟩)
          dsimp only [Pt.U, Pt.locs, Pt.cells, Pt.slots] at X824 l824 y824 z824 st824 hQ824
          subst l824 y824 z824
          obtain ⟨rfl, N824q, H824⟩ := hQ824
          have N824 := Fr.app N783 N824q
          obtain ⟨T861, X861, e861, st861⟩ := getS2 X824 hx hZ769 hown769 (host := "") (Or.inl (tw hw 78 rfl)) Via.refl H824 (Sta.ext O781.2 S_2) (g := (mkF m 198 #[.val (.int p1), .val (.int p2), .val (.int p3), .val (.int p4), .val .null, .val (.ref b699), .val (.ref b721), .val (.int (0 : Int32)), .val (.ref b750), .val (.ref b768), .val .null, .val (.ref b699), .unset] [(.ref b768)])) rfl (hb hby at_198)
          have C863 := E_2.keep K699
          have C864 := C863.keep K700
          have C865 := C864.keep K702
          have C866 := C865.keep K704
          have C867 := C866.keep K705
          have C868 := C867.keep K721
          have C869 := C868.keep K722
          have C870 := C869.keep K724
          have C871 := C870.keep K726
          have C872 := C871.keep K728
          have C873 := C872.keep K729
          have C874 := C873.keep K750
          have C875 := C874.keep K752
          have C876 := C875.keep K762
          have C877 := C876.keep K767
          have C878 := C877.keep K768
          have C879 := C878.keep K769
          have C880 := C879.keep K770
          have C881 := F_2.keep K699 nin0
          have C882 := C881.keep K700 nin0
          have C883 := C882.keep K702 (ninS (by omega : @Ne Nat lf2 b700) (nin0))
          have C884 := C883.keep K704 (ninS (by omega : @Ne Nat lf2 b700) (nin0))
          have C885 := C884.keep K705 (ninS (by omega : @Ne Nat lf2 b699) (nin0))
          have C886 := C885.keep K721 nin0
          have C887 := C886.keep K722 nin0
          have C888 := C887.keep K724 (ninS (by omega : @Ne Nat lf2 b722) (nin0))
          have C889 := C888.keep K726 (ninS (by omega : @Ne Nat lf2 b722) (nin0))
          have C890 := C889.keep K728 (ninS (by omega : @Ne Nat lf2 b722) (nin0))
          have C891 := C890.keep K729 (ninS (by omega : @Ne Nat lf2 b721) (nin0))
          have C892 := C891.keep K750 nin0
          have C893 := C892.keep K752 (ninS (by omega : @Ne Nat lf2 b750) (nin0))
          have C894 := C893.keep K762 (ninS (by omega : @Ne Nat lf2 b750) (nin0))
          have C895 := C894.keep K767 (ninS (by omega : @Ne Nat lf2 b750) (nin0))
          have C896 := C895.keep K768 nin0
          have C897 := C896.keep K769 nin0
          have C898 := C897.keep K770 (ninS (by omega : @Ne Nat lf2 b768) (nin0))
          obtain ⟨cq862, kq862, q862a, q862b, q862c⟩ := isOf hZ769 e861 E770
          obtain ⟨_, _, ⟨T862, L862, k862, n862⟩, -, X862, ⟨Lc862, hQ862, l862, y862, z862⟩, st862⟩ := X861.virtualBack hx (y := (⟨"com/example/links_to_sitemap/linkstositemap/SitemapFileWriter$Entry", "field", "(Lcom/example/links_to_sitemap/linkstositemap/LinkField;)Ljava/lang/String;"⟩ : MethodName)) (z := (⟨"com/example/links_to_sitemap/linkstositemap/SitemapFileWriter$Entry", "field", "(Lcom/example/links_to_sitemap/linkstositemap/LinkField;)Ljava/lang/String;"⟩ : MethodName)) hown769 (mvT hZ769 (tw hw 62 rfl)) (mvT hZ769 (tw hw 63 rfl)) (notFace_of_selects (args := #[]) (mvT hZ769 (tw hw 65 rfl))) (mvT hZ769 (tw hw 65 rfl)) (mvT hZ769 (tw hw 64 rfl)) (by decide) (backOf (W := 0) (rmFieldA l Z a0 hw [] b768 lf2 b750 k750 [.null, (.ref b699), (.ref b721)] (.ref b721) (2 : Int32) T770.heap n0 O781 F770 C786 C880 C898 (by decide) (by decide) rfl rfl) hZ769 (tw hw 66 rfl) (tw hw 47 rfl) (by decide) (by decide)) q862a q862c (g := (mkF m 201 #[.val (.int p1), .val (.int p2), .val (.int p3), .val (.int p4), .val .null, .val (.ref b699), .val (.ref b721), .val (.int (0 : Int32)), .val (.ref b750), .val (.ref b768), .val .null, .val (.ref b699), .unset] [(.ref lf2), (.ref b768)])) rfl (by rw [hml]; rfl) (Steps.refl _) (argsL := [(.ref lf2)]) (rest := []) (lenOf pd_11 rfl) rfl (by show 2 * 0 + _ ≤ _; exact Nat.le_of_eq rfl) (hb hby at_201) (fun _ _ => ⟨rfl, e861, (by decide : 10 + 0 ≤ _), (by decide : 107 + 0 ≤ _)⟩)
          dsimp only [Pt.U, Pt.locs, Pt.cells, Pt.slots] at X862 l862 y862 z862 st862 hQ862
          subst l862 y862 z862
          obtain ⟨rfl, N862q, H862⟩ := hQ862
          have N862 := Fr.app N824 N862q
          obtain ⟨_, _, ⟨T899, L899, k899, n899⟩, -, X899, ⟨Lc899, hQ899, l899, y899, z899⟩, st899⟩ := Jvm.LawKit.callS X862 hx (y := (⟨"com/example/links_to_sitemap/linkstositemap/EntryFieldPinLaw", "same", "(Ljava/lang/String;Ljava/lang/String;)Z"⟩ : MethodName)) hown769 (mvT hZ769 (tw hw 80 rfl)) (mvT hZ769 (tw hw 81 rfl)) (mvT hZ769 (tw hw 82 rfl)) (mvT hZ769 (tw hw 83 rfl)) (by decide) (backOf (W := 0) (rmSameN l Z a0 hw []   T770.heap n0 O781 ) hZ769 (tw hw 83 rfl) (tw hw 82 rfl) (by decide) (by decide)) (g := (mkF m 236 #[.val (.int p1), .val (.int p2), .val (.int p3), .val (.int p4), .val .null, .val (.ref b699), .val (.ref b721), .val (.int (0 : Int32)), .val (.ref b750), .val (.ref b768), .val .null, .val (.ref b699), .val (.ref b721)] [.null, .null])) rfl (by rw [hml]; rfl) (argsL := [.null, .null]) (rest := []) (lenOf pd_13 rfl) rfl (by show 2 * 0 + _ ≤ _; exact Nat.le_of_eq rfl) (hb hby at_236) (fun _ _ => ⟨rfl, H862, (by decide : 10 + 0 ≤ _), (by decide : 107 + 0 ≤ _)⟩)
          dsimp only [Pt.U, Pt.locs, Pt.cells, Pt.slots] at X899 l899 y899 z899 st899 hQ899
          subst l899 y899 z899
          obtain ⟨rfl, N899q, H899⟩ := hQ899
          have N899 := Fr.app N862 N899q
          have C901 := C761.keep K762
          have C902 := C901.keep K767
          have C903 := C902.keep K768
          have C904 := C903.keep K769
          have C905 := C904.keep K770
          obtain ⟨_, _, ⟨T900, L900, k900, n900⟩, -, X900, ⟨Lc900, hQ900, l900, y900, z900⟩, st900⟩ := Jvm.LawKit.callS X899 hx (y := (⟨"com/example/links_to_sitemap/linkstositemap/EntryFieldPinLaw", "same", "(Ljava/lang/String;Ljava/lang/String;)Z"⟩ : MethodName)) hown769 (mvT hZ769 (tw hw 80 rfl)) (mvT hZ769 (tw hw 81 rfl)) (mvT hZ769 (tw hw 82 rfl)) (mvT hZ769 (tw hw 83 rfl)) (by decide) (backOf (W := 0) (rmSameX l Z a0 hw [] b699  T770.heap n0 O781 C905) hZ769 (tw hw 83 rfl) (tw hw 82 rfl) (by decide) (by decide)) (g := (mkF m 246 #[.val (.int p1), .val (.int p2), .val (.int p3), .val (.int p4), .val .null, .val (.ref b699), .val (.ref b721), .val (.int (0 : Int32)), .val (.ref b750), .val (.ref b768), .val .null, .val (.ref b699), .val (.ref b721)] [(.ref b699), (.ref b699)])) rfl (by rw [hml]; rfl) (argsL := [(.ref b699), (.ref b699)]) (rest := []) (lenOf pd_13 rfl) rfl (by show 2 * 0 + _ ≤ _; exact Nat.le_of_eq rfl) (hb hby at_246) (fun _ _ => ⟨rfl, H899, (by decide : 10 + 0 ≤ _), (by decide : 107 + 0 ≤ _)⟩)
          dsimp only [Pt.U, Pt.locs, Pt.cells, Pt.slots] at X900 l900 y900 z900 st900 hQ900
          subst l900 y900 z900
          obtain ⟨rfl, N900q, H900⟩ := hQ900
          have N900 := Fr.app N899 N900q
          have C907 := C766.keep K767
          have C908 := C907.keep K768
          have C909 := C908.keep K769
          have C910 := C909.keep K770
          obtain ⟨_, _, ⟨T906, L906, k906, n906⟩, -, X906, ⟨Lc906, hQ906, l906, y906, z906⟩, st906⟩ := Jvm.LawKit.callS X900 hx (y := (⟨"com/example/links_to_sitemap/linkstositemap/EntryFieldPinLaw", "same", "(Ljava/lang/String;Ljava/lang/String;)Z"⟩ : MethodName)) hown769 (mvT hZ769 (tw hw 80 rfl)) (mvT hZ769 (tw hw 81 rfl)) (mvT hZ769 (tw hw 82 rfl)) (mvT hZ769 (tw hw 83 rfl)) (by decide) (backOf (W := 0) (rmSameX l Z a0 hw [] b721  T770.heap n0 O781 C910) hZ769 (tw hw 83 rfl) (tw hw 82 rfl) (by decide) (by decide)) (g := (mkF m 256 #[.val (.int p1), .val (.int p2), .val (.int p3), .val (.int p4), .val .null, .val (.ref b699), .val (.ref b721), .val (.int (0 : Int32)), .val (.ref b750), .val (.ref b768), .val .null, .val (.ref b699), .val (.ref b721)] [(.ref b721), (.ref b721)])) rfl (by rw [hml]; rfl) (argsL := [(.ref b721), (.ref b721)]) (rest := []) (lenOf pd_13 rfl) rfl (by show 2 * 0 + _ ≤ _; exact Nat.le_of_eq rfl) (hb hby at_256) (fun _ _ => ⟨rfl, H900, (by decide : 10 + 0 ≤ _), (by decide : 107 + 0 ≤ _)⟩)
          dsimp only [Pt.U, Pt.locs, Pt.cells, Pt.slots] at X906 l906 y906 z906 st906 hQ906
          subst l906 y906 z906
          obtain ⟨rfl, N906q, H906⟩ := hQ906
          have N906 := Fr.app N900 N906q
          obtain ⟨fs, hr, hrun, hended, eR, eW, eI, eS⟩ := Stand.leaveW (s := s) (vm₁ := T769.vm) X906 hS769 (by rw [H906]; omega) (v := some (.int (1 : Int32))) (fun h => by rw [Bd.returns] at h; cases h)
          refine ⟨_, _, pre749 _ ?_, hrun, hended, _, _, rfl, ?_, eR, eW, eI, eS.mono (by decide) (by decide)⟩
          · skip
            show Steps p.tables e below (T729.setTop (mkF m 123 #[.val (.int p1), .val (.int p2), .val (.int p3), .val (.int p4), .val .null, .val (.ref b699), .val (.ref b721), .unset, .unset, .unset, .unset, .unset, .unset] [(.int (p1 &&& (8 : Int32)))])) _
            refine XS.ifYes X729.here hx rfl (pc0 := 123) (pc' := 130) rfl (hb hby at_123) rfl ((if0 _ _).trans (teq hc748).1) (by decide) (by decide) ?_
            show Steps p.tables e below (T729.setTop (mkF m 130 #[.val (.int p1), .val (.int p2), .val (.int p3), .val (.int p4), .val .null, .val (.ref b699), .val (.ref b721), .unset, .unset, .unset, .unset, .unset, .unset] [])) _
            refine XS.iconst X729.here hx rfl (hb hby at_130) ?_
            show Steps p.tables e below (T729.setTop (mkF m 131 #[.val (.int p1), .val (.int p2), .val (.int p3), .val (.int p4), .val .null, .val (.ref b699), .val (.ref b721), .unset, .unset, .unset, .unset, .unset, .unset] [(.int (0 : Int32))])) _
            refine XS.istore X729.here hx rfl (hb hby at_131) rfl (l' := #[.val (.int p1), .val (.int p2), .val (.int p3), .val (.int p4), .val .null, .val (.ref b699), .val (.ref b721), .val (.int (0 : Int32)), .unset, .unset, .unset, .unset, .unset]) rfl ?_
            show Steps p.tables e below (T729.setTop (mkF m 133 #[.val (.int p1), .val (.int p2), .val (.int p3), .val (.int p4), .val .null, .val (.ref b699), .val (.ref b721), .val (.int (0 : Int32)), .unset, .unset, .unset, .unset, .unset] [])) _
            refine XS.iload X729.here hx rfl (hb hby at_133) rfl ?_
            show Steps p.tables e below (T729.setTop (mkF m 135 #[.val (.int p1), .val (.int p2), .val (.int p3), .val (.int p4), .val .null, .val (.ref b699), .val (.ref b721), .val (.int (0 : Int32)), .unset, .unset, .unset, .unset, .unset] [(.int (0 : Int32))])) _
            refine XS.ifYes X729.here hx rfl (pc0 := 135) (pc' := 142) rfl (hb hby at_135) rfl ((if0 _ _).trans (teq (by decide : (0 : Int32) = (0 : Int32))).1) (by decide) (by decide) ?_
            show Steps p.tables e below (T729.setTop (mkF m 142 #[.val (.int p1), .val (.int p2), .val (.int p3), .val (.int p4), .val .null, .val (.ref b699), .val (.ref b721), .val (.int (0 : Int32)), .unset, .unset, .unset, .unset, .unset] [])) _
            refine XS.iconst X729.here hx rfl (hb hby at_142) ?_
            show Steps p.tables e below (T729.setTop (mkF m 143 #[.val (.int p1), .val (.int p2), .val (.int p3), .val (.int p4), .val .null, .val (.ref b699), .val (.ref b721), .val (.int (0 : Int32)), .unset, .unset, .unset, .unset, .unset] [(.int (3 : Int32))])) _
            refine st750 _ ?_
            show Steps p.tables e below (T750.setTop (mkF m 146 #[.val (.int p1), .val (.int p2), .val (.int p3), .val (.int p4), .val .null, .val (.ref b699), .val (.ref b721), .val (.int (0 : Int32)), .unset, .unset, .unset, .unset, .unset] [(.ref b750)])) _
            refine XS.dup X750.here hx rfl (hb hby at_146) rfl rfl ?_
            show Steps p.tables e below (T750.setTop (mkF m 147 #[.val (.int p1), .val (.int p2), .val (.int p3), .val (.int p4), .val .null, .val (.ref b699), .val (.ref b721), .val (.int (0 : Int32)), .unset, .unset, .unset, .unset, .unset] [(.ref b750), (.ref b750)])) _
            refine XS.iconst X750.here hx rfl (hb hby at_147) ?_
            show Steps p.tables e below (T750.setTop (mkF m 148 #[.val (.int p1), .val (.int p2), .val (.int p3), .val (.int p4), .val .null, .val (.ref b699), .val (.ref b721), .val (.int (0 : Int32)), .unset, .unset, .unset, .unset, .unset] [(.int (0 : Int32)), (.ref b750), (.ref b750)])) _
            refine XS.aload X750.here hx rfl (hb hby at_148) rfl rfl ?_
            show Steps p.tables e below (T750.setTop (mkF m 150 #[.val (.int p1), .val (.int p2), .val (.int p3), .val (.int p4), .val .null, .val (.ref b699), .val (.ref b721), .val (.int (0 : Int32)), .unset, .unset, .unset, .unset, .unset] [.null, (.int (0 : Int32)), (.ref b750), (.ref b750)])) _
            refine st752 _ ?_
            show Steps p.tables e below (T752.setTop (mkF m 151 #[.val (.int p1), .val (.int p2), .val (.int p3), .val (.int p4), .val .null, .val (.ref b699), .val (.ref b721), .val (.int (0 : Int32)), .unset, .unset, .unset, .unset, .unset] [(.ref b750)])) _
            refine XS.dup X752.here hx rfl (hb hby at_151) rfl rfl ?_
            show Steps p.tables e below (T752.setTop (mkF m 152 #[.val (.int p1), .val (.int p2), .val (.int p3), .val (.int p4), .val .null, .val (.ref b699), .val (.ref b721), .val (.int (0 : Int32)), .unset, .unset, .unset, .unset, .unset] [(.ref b750), (.ref b750)])) _
            refine XS.iconst X752.here hx rfl (hb hby at_152) ?_
            show Steps p.tables e below (T752.setTop (mkF m 153 #[.val (.int p1), .val (.int p2), .val (.int p3), .val (.int p4), .val .null, .val (.ref b699), .val (.ref b721), .val (.int (0 : Int32)), .unset, .unset, .unset, .unset, .unset] [(.int (1 : Int32)), (.ref b750), (.ref b750)])) _
            refine XS.aload X752.here hx rfl (hb hby at_153) rfl rfl ?_
            show Steps p.tables e below (T752.setTop (mkF m 155 #[.val (.int p1), .val (.int p2), .val (.int p3), .val (.int p4), .val .null, .val (.ref b699), .val (.ref b721), .val (.int (0 : Int32)), .unset, .unset, .unset, .unset, .unset] [(.ref b699), (.int (1 : Int32)), (.ref b750), (.ref b750)])) _
            refine st762 _ ?_
            show Steps p.tables e below (T762.setTop (mkF m 156 #[.val (.int p1), .val (.int p2), .val (.int p3), .val (.int p4), .val .null, .val (.ref b699), .val (.ref b721), .val (.int (0 : Int32)), .unset, .unset, .unset, .unset, .unset] [(.ref b750)])) _
            refine XS.dup X762.here hx rfl (hb hby at_156) rfl rfl ?_
            show Steps p.tables e below (T762.setTop (mkF m 157 #[.val (.int p1), .val (.int p2), .val (.int p3), .val (.int p4), .val .null, .val (.ref b699), .val (.ref b721), .val (.int (0 : Int32)), .unset, .unset, .unset, .unset, .unset] [(.ref b750), (.ref b750)])) _
            refine XS.iconst X762.here hx rfl (hb hby at_157) ?_
            show Steps p.tables e below (T762.setTop (mkF m 158 #[.val (.int p1), .val (.int p2), .val (.int p3), .val (.int p4), .val .null, .val (.ref b699), .val (.ref b721), .val (.int (0 : Int32)), .unset, .unset, .unset, .unset, .unset] [(.int (2 : Int32)), (.ref b750), (.ref b750)])) _
            refine XS.aload X762.here hx rfl (hb hby at_158) rfl rfl ?_
            show Steps p.tables e below (T762.setTop (mkF m 160 #[.val (.int p1), .val (.int p2), .val (.int p3), .val (.int p4), .val .null, .val (.ref b699), .val (.ref b721), .val (.int (0 : Int32)), .unset, .unset, .unset, .unset, .unset] [(.ref b721), (.int (2 : Int32)), (.ref b750), (.ref b750)])) _
            refine st767 _ ?_
            show Steps p.tables e below (T767.setTop (mkF m 161 #[.val (.int p1), .val (.int p2), .val (.int p3), .val (.int p4), .val .null, .val (.ref b699), .val (.ref b721), .val (.int (0 : Int32)), .unset, .unset, .unset, .unset, .unset] [(.ref b750)])) _
            refine XS.astore X767.here hx rfl (hb hby at_161) rfl rfl (l' := #[.val (.int p1), .val (.int p2), .val (.int p3), .val (.int p4), .val .null, .val (.ref b699), .val (.ref b721), .val (.int (0 : Int32)), .val (.ref b750), .unset, .unset, .unset, .unset]) rfl ?_
            show Steps p.tables e below (T767.setTop (mkF m 163 #[.val (.int p1), .val (.int p2), .val (.int p3), .val (.int p4), .val .null, .val (.ref b699), .val (.ref b721), .val (.int (0 : Int32)), .val (.ref b750), .unset, .unset, .unset, .unset] [])) _
            refine st768 _ ?_
            show Steps p.tables e below (T768.setTop (mkF m 166 #[.val (.int p1), .val (.int p2), .val (.int p3), .val (.int p4), .val .null, .val (.ref b699), .val (.ref b721), .val (.int (0 : Int32)), .val (.ref b750), .unset, .unset, .unset, .unset] [(.ref b768)])) _
            refine XS.dup X768.here hx rfl (hb hby at_166) rfl rfl ?_
            show Steps p.tables e below (T768.setTop (mkF m 167 #[.val (.int p1), .val (.int p2), .val (.int p3), .val (.int p4), .val .null, .val (.ref b699), .val (.ref b721), .val (.int (0 : Int32)), .val (.ref b750), .unset, .unset, .unset, .unset] [(.ref b768), (.ref b768)])) _
            refine st769 _ ?_
            show Steps p.tables e below (T769.setTop (mkF m 169 #[.val (.int p1), .val (.int p2), .val (.int p3), .val (.int p4), .val .null, .val (.ref b699), .val (.ref b721), .val (.int (0 : Int32)), .val (.ref b750), .unset, .unset, .unset, .unset] [(.ref b769), (.ref b768), (.ref b768)])) _
            refine XS.aload X769.here hx rfl (hb hby at_169) rfl rfl ?_
            show Steps p.tables e below (T769.setTop (mkF m 171 #[.val (.int p1), .val (.int p2), .val (.int p3), .val (.int p4), .val .null, .val (.ref b699), .val (.ref b721), .val (.int (0 : Int32)), .val (.ref b750), .unset, .unset, .unset, .unset] [(.ref b750), (.ref b769), (.ref b768), (.ref b768)])) _
            refine st770.trans ?_
            show Steps p.tables e below (T770.setTop (mkF m 174 #[.val (.int p1), .val (.int p2), .val (.int p3), .val (.int p4), .val .null, .val (.ref b699), .val (.ref b721), .val (.int (0 : Int32)), .val (.ref b750), .unset, .unset, .unset, .unset] [(.ref b768)])) _
            refine XS.astore X770.here hx rfl (hb hby at_174) rfl rfl (l' := #[.val (.int p1), .val (.int p2), .val (.int p3), .val (.int p4), .val .null, .val (.ref b699), .val (.ref b721), .val (.int (0 : Int32)), .val (.ref b750), .val (.ref b768), .unset, .unset, .unset]) rfl ?_
            show Steps p.tables e below (T770.setTop (mkF m 176 #[.val (.int p1), .val (.int p2), .val (.int p3), .val (.int p4), .val .null, .val (.ref b699), .val (.ref b721), .val (.int (0 : Int32)), .val (.ref b750), .val (.ref b768), .unset, .unset, .unset] [])) _
            refine XS.aload X770.here hx rfl (hb hby at_176) rfl rfl ?_
            show Steps p.tables e below (T770.setTop (mkF m 178 #[.val (.int p1), .val (.int p2), .val (.int p3), .val (.int p4), .val .null, .val (.ref b699), .val (.ref b721), .val (.int (0 : Int32)), .val (.ref b750), .val (.ref b768), .unset, .unset, .unset] [(.ref b768)])) _
            refine st782 _ ?_
            show Steps p.tables e below (T782.setTop (mkF m 181 #[.val (.int p1), .val (.int p2), .val (.int p3), .val (.int p4), .val .null, .val (.ref b699), .val (.ref b721), .val (.int (0 : Int32)), .val (.ref b750), .val (.ref b768), .unset, .unset, .unset] [(.ref lf0), (.ref b768)])) _
            refine st783.trans ?_
            show Steps p.tables e below (T783.setTop (mkF m 184 #[.val (.int p1), .val (.int p2), .val (.int p3), .val (.int p4), .val .null, .val (.ref b699), .val (.ref b721), .val (.int (0 : Int32)), .val (.ref b750), .val (.ref b768), .unset, .unset, .unset] [.null])) _
            refine XS.astore X783.here hx rfl (hb hby at_184) rfl rfl (l' := #[.val (.int p1), .val (.int p2), .val (.int p3), .val (.int p4), .val .null, .val (.ref b699), .val (.ref b721), .val (.int (0 : Int32)), .val (.ref b750), .val (.ref b768), .val .null, .unset, .unset]) rfl ?_
            show Steps p.tables e below (T783.setTop (mkF m 186 #[.val (.int p1), .val (.int p2), .val (.int p3), .val (.int p4), .val .null, .val (.ref b699), .val (.ref b721), .val (.int (0 : Int32)), .val (.ref b750), .val (.ref b768), .val .null, .unset, .unset] [])) _
            refine XS.aload X783.here hx rfl (hb hby at_186) rfl rfl ?_
            show Steps p.tables e below (T783.setTop (mkF m 188 #[.val (.int p1), .val (.int p2), .val (.int p3), .val (.int p4), .val .null, .val (.ref b699), .val (.ref b721), .val (.int (0 : Int32)), .val (.ref b750), .val (.ref b768), .val .null, .unset, .unset] [(.ref b768)])) _
            refine st823 _ ?_
            show Steps p.tables e below (T823.setTop (mkF m 191 #[.val (.int p1), .val (.int p2), .val (.int p3), .val (.int p4), .val .null, .val (.ref b699), .val (.ref b721), .val (.int (0 : Int32)), .val (.ref b750), .val (.ref b768), .val .null, .unset, .unset] [(.ref lf1), (.ref b768)])) _
            refine st824.trans ?_
            show Steps p.tables e below (T824.setTop (mkF m 194 #[.val (.int p1), .val (.int p2), .val (.int p3), .val (.int p4), .val .null, .val (.ref b699), .val (.ref b721), .val (.int (0 : Int32)), .val (.ref b750), .val (.ref b768), .val .null, .unset, .unset] [(.ref b699)])) _
            refine XS.astore X824.here hx rfl (hb hby at_194) rfl rfl (l' := #[.val (.int p1), .val (.int p2), .val (.int p3), .val (.int p4), .val .null, .val (.ref b699), .val (.ref b721), .val (.int (0 : Int32)), .val (.ref b750), .val (.ref b768), .val .null, .val (.ref b699), .unset]) rfl ?_
            show Steps p.tables e below (T824.setTop (mkF m 196 #[.val (.int p1), .val (.int p2), .val (.int p3), .val (.int p4), .val .null, .val (.ref b699), .val (.ref b721), .val (.int (0 : Int32)), .val (.ref b750), .val (.ref b768), .val .null, .val (.ref b699), .unset] [])) _
            refine XS.aload X824.here hx rfl (hb hby at_196) rfl rfl ?_
            show Steps p.tables e below (T824.setTop (mkF m 198 #[.val (.int p1), .val (.int p2), .val (.int p3), .val (.int p4), .val .null, .val (.ref b699), .val (.ref b721), .val (.int (0 : Int32)), .val (.ref b750), .val (.ref b768), .val .null, .val (.ref b699), .unset] [(.ref b768)])) _
            refine st861 _ ?_
            show Steps p.tables e below (T861.setTop (mkF m 201 #[.val (.int p1), .val (.int p2), .val (.int p3), .val (.int p4), .val .null, .val (.ref b699), .val (.ref b721), .val (.int (0 : Int32)), .val (.ref b750), .val (.ref b768), .val .null, .val (.ref b699), .unset] [(.ref lf2), (.ref b768)])) _
            refine st862.trans ?_
            show Steps p.tables e below (T862.setTop (mkF m 204 #[.val (.int p1), .val (.int p2), .val (.int p3), .val (.int p4), .val .null, .val (.ref b699), .val (.ref b721), .val (.int (0 : Int32)), .val (.ref b750), .val (.ref b768), .val .null, .val (.ref b699), .unset] [(.ref b721)])) _
            refine XS.astore X862.here hx rfl (hb hby at_204) rfl rfl (l' := #[.val (.int p1), .val (.int p2), .val (.int p3), .val (.int p4), .val .null, .val (.ref b699), .val (.ref b721), .val (.int (0 : Int32)), .val (.ref b750), .val (.ref b768), .val .null, .val (.ref b699), .val (.ref b721)]) rfl ?_
            show Steps p.tables e below (T862.setTop (mkF m 206 #[.val (.int p1), .val (.int p2), .val (.int p3), .val (.int p4), .val .null, .val (.ref b699), .val (.ref b721), .val (.int (0 : Int32)), .val (.ref b750), .val (.ref b768), .val .null, .val (.ref b699), .val (.ref b721)] [])) _
            refine XS.iload X862.here hx rfl (hb hby at_206) rfl ?_
            show Steps p.tables e below (T862.setTop (mkF m 208 #[.val (.int p1), .val (.int p2), .val (.int p3), .val (.int p4), .val .null, .val (.ref b699), .val (.ref b721), .val (.int (0 : Int32)), .val (.ref b750), .val (.ref b768), .val .null, .val (.ref b699), .val (.ref b721)] [(.int (0 : Int32))])) _
            refine XS.ifYes X862.here hx rfl (pc0 := 208) (pc' := 232) rfl (hb hby at_208) rfl ((if0 _ _).trans (teq (by decide : (0 : Int32) = (0 : Int32))).1) (by decide) (by decide) ?_
            show Steps p.tables e below (T862.setTop (mkF m 232 #[.val (.int p1), .val (.int p2), .val (.int p3), .val (.int p4), .val .null, .val (.ref b699), .val (.ref b721), .val (.int (0 : Int32)), .val (.ref b750), .val (.ref b768), .val .null, .val (.ref b699), .val (.ref b721)] [])) _
            refine XS.aload X862.here hx rfl (hb hby at_232) rfl rfl ?_
            show Steps p.tables e below (T862.setTop (mkF m 234 #[.val (.int p1), .val (.int p2), .val (.int p3), .val (.int p4), .val .null, .val (.ref b699), .val (.ref b721), .val (.int (0 : Int32)), .val (.ref b750), .val (.ref b768), .val .null, .val (.ref b699), .val (.ref b721)] [.null])) _
            refine XS.aload X862.here hx rfl (hb hby at_234) rfl rfl ?_
            show Steps p.tables e below (T862.setTop (mkF m 236 #[.val (.int p1), .val (.int p2), .val (.int p3), .val (.int p4), .val .null, .val (.ref b699), .val (.ref b721), .val (.int (0 : Int32)), .val (.ref b750), .val (.ref b768), .val .null, .val (.ref b699), .val (.ref b721)] [.null, .null])) _
            refine st899 _ ?_
            show Steps p.tables e below (T899.setTop (mkF m 239 #[.val (.int p1), .val (.int p2), .val (.int p3), .val (.int p4), .val .null, .val (.ref b699), .val (.ref b721), .val (.int (0 : Int32)), .val (.ref b750), .val (.ref b768), .val .null, .val (.ref b699), .val (.ref b721)] [(.int (1 : Int32))])) _
            refine XS.ifNo X899.here hx rfl (hb hby at_239) rfl ((if0 _ _).trans (feq (by decide : ¬ ((1 : Int32) = (0 : Int32)))).1) ?_
            show Steps p.tables e below (T899.setTop (mkF m 242 #[.val (.int p1), .val (.int p2), .val (.int p3), .val (.int p4), .val .null, .val (.ref b699), .val (.ref b721), .val (.int (0 : Int32)), .val (.ref b750), .val (.ref b768), .val .null, .val (.ref b699), .val (.ref b721)] [])) _
            refine XS.aload X899.here hx rfl (hb hby at_242) rfl rfl ?_
            show Steps p.tables e below (T899.setTop (mkF m 244 #[.val (.int p1), .val (.int p2), .val (.int p3), .val (.int p4), .val .null, .val (.ref b699), .val (.ref b721), .val (.int (0 : Int32)), .val (.ref b750), .val (.ref b768), .val .null, .val (.ref b699), .val (.ref b721)] [(.ref b699)])) _
            refine XS.aload X899.here hx rfl (hb hby at_244) rfl rfl ?_
            show Steps p.tables e below (T899.setTop (mkF m 246 #[.val (.int p1), .val (.int p2), .val (.int p3), .val (.int p4), .val .null, .val (.ref b699), .val (.ref b721), .val (.int (0 : Int32)), .val (.ref b750), .val (.ref b768), .val .null, .val (.ref b699), .val (.ref b721)] [(.ref b699), (.ref b699)])) _
            refine st900 _ ?_
            show Steps p.tables e below (T900.setTop (mkF m 249 #[.val (.int p1), .val (.int p2), .val (.int p3), .val (.int p4), .val .null, .val (.ref b699), .val (.ref b721), .val (.int (0 : Int32)), .val (.ref b750), .val (.ref b768), .val .null, .val (.ref b699), .val (.ref b721)] [(.int (1 : Int32))])) _
            refine XS.ifNo X900.here hx rfl (hb hby at_249) rfl ((if0 _ _).trans (feq (by decide : ¬ ((1 : Int32) = (0 : Int32)))).1) ?_
            show Steps p.tables e below (T900.setTop (mkF m 252 #[.val (.int p1), .val (.int p2), .val (.int p3), .val (.int p4), .val .null, .val (.ref b699), .val (.ref b721), .val (.int (0 : Int32)), .val (.ref b750), .val (.ref b768), .val .null, .val (.ref b699), .val (.ref b721)] [])) _
            refine XS.aload X900.here hx rfl (hb hby at_252) rfl rfl ?_
            show Steps p.tables e below (T900.setTop (mkF m 254 #[.val (.int p1), .val (.int p2), .val (.int p3), .val (.int p4), .val .null, .val (.ref b699), .val (.ref b721), .val (.int (0 : Int32)), .val (.ref b750), .val (.ref b768), .val .null, .val (.ref b699), .val (.ref b721)] [(.ref b721)])) _
            refine XS.aload X900.here hx rfl (hb hby at_254) rfl rfl ?_
            show Steps p.tables e below (T900.setTop (mkF m 256 #[.val (.int p1), .val (.int p2), .val (.int p3), .val (.int p4), .val .null, .val (.ref b699), .val (.ref b721), .val (.int (0 : Int32)), .val (.ref b750), .val (.ref b768), .val .null, .val (.ref b699), .val (.ref b721)] [(.ref b721), (.ref b721)])) _
            refine st906 _ ?_
            show Steps p.tables e below (T906.setTop (mkF m 259 #[.val (.int p1), .val (.int p2), .val (.int p3), .val (.int p4), .val .null, .val (.ref b699), .val (.ref b721), .val (.int (0 : Int32)), .val (.ref b750), .val (.ref b768), .val .null, .val (.ref b699), .val (.ref b721)] [(.int (1 : Int32))])) _
            refine XS.ifNo X906.here hx rfl (hb hby at_259) rfl ((if0 _ _).trans (feq (by decide : ¬ ((1 : Int32) = (0 : Int32)))).1) ?_
            show Steps p.tables e below (T906.setTop (mkF m 262 #[.val (.int p1), .val (.int p2), .val (.int p3), .val (.int p4), .val .null, .val (.ref b699), .val (.ref b721), .val (.int (0 : Int32)), .val (.ref b750), .val (.ref b768), .val .null, .val (.ref b699), .val (.ref b721)] [])) _
            refine XS.iconst X906.here hx rfl (hb hby at_262) ?_
            show Steps p.tables e below (T906.setTop (mkF m 263 #[.val (.int p1), .val (.int p2), .val (.int p3), .val (.int p4), .val .null, .val (.ref b699), .val (.ref b721), .val (.int (0 : Int32)), .val (.ref b750), .val (.ref b768), .val .null, .val (.ref b699), .val (.ref b721)] [(.int (1 : Int32))])) _
            refine XS.goto X906.here hx rfl (pc0 := 263) (pc' := 267) rfl (hb hby at_263) (by decide) (by decide) ?_
            show Steps p.tables e below (T906.setTop (mkF m 267 #[.val (.int p1), .val (.int p2), .val (.int p3), .val (.int p4), .val .null, .val (.ref b699), .val (.ref b721), .val (.int (0 : Int32)), .val (.ref b750), .val (.ref b768), .val .null, .val (.ref b699), .val (.ref b721)] [(.int (1 : Int32))])) _
            exact retN X906 hx (t := .boolean) Bd.returns (by simp) (hb hby at_267) hr
          · show Q_rm0 Z p1 p2 p3 p4 cs lf0 lf1 lf2 h0 n0 _ T906.heap _
            rw [H906]
            exact ⟨rfl, N906⟩
        · skip
          obtain ⟨T911, h911, X911, e911, E911, A911, D911, -, st911⟩ := newO X729 hx hZ hown (tw hw 45 rfl) (tw hw 46 rfl) (tw hw 47 rfl) rfl (g := (mkF m 163 #[.val (.int p1), .val (.int p2), .val (.int p3), .val (.int p4), .val .null, .val (.ref b699), .val (.ref b721), .val (.int (1 : Int32)), .val .null, .unset, .unset, .unset, .unset] [])) rfl (hb hby at_163) (by decide) (by decide)
          obtain ⟨b911, g911⟩ : ∃ z, z = T729.heap.size := ⟨_, rfl⟩
          rw [← g911] at A911 D911 st911
          have lt911 : @LT.lt Nat _ b911 h911.size := A911.lt
          have K911 : Keep T729.heap h911 [] := (Keep.refl _ _).ext E911
          have sz12_K911 := K911.1
          have F911_loc : Fld Z h911 b911 "com/example/links_to_sitemap/linkstositemap/SitemapFileWriter$Entry" "loc" "Ljava/lang/String;" .null := D911 (Or.inr (tw hw 56 rfl)) (ty := (.object "java/lang/String")) (by decide)
          have F911_fields : Fld Z h911 b911 "com/example/links_to_sitemap/linkstositemap/SitemapFileWriter$Entry" "fields" "[Ljava/lang/String;" .null := D911 (Or.inr (tw hw 58 rfl)) (ty := (.array (.object "java/lang/String"))) (by decide)
          obtain ⟨b912, T912, h912, k912, X912, e912, E912, hS912, hk912, hZ912, hown912, st912⟩ := ldcS (s := s) (vm0 := s.vm) X911 hx hZ hown (tw hw 48 rfl) wStr e911 hS0 (by omega) (g := (mkF m 167 #[.val (.int p1), .val (.int p2), .val (.int p3), .val (.int p4), .val .null, .val (.ref b699), .val (.ref b721), .val (.int (1 : Int32)), .val .null, .unset, .unset, .unset, .unset] [(.ref b911), (.ref b911)])) rfl (hb hby at_167) (n := 80) (by decide) (by decide) (by decide) (by decide)
          have K912 : Keep h911 h912 [] := (Keep.refl _ _).ext E912
          have sz13_K912 := K912.1
          have C914 := A911.keep K912
          have C915 := F911_loc.keep K912 nin0
          have C916 := F911_fields.keep K912 nin0
          have O917 : Old Z n0 T729.heap := O747.keep K729 (allS (by omega) (all0))
          have O918 : Old Z n0 h911 := O917.keep K911 all0
          have O919 : Old Z n0 h912 := O918.keep K912 all0
          obtain ⟨_, _, ⟨T913, L913, k913, n913⟩, -, X913, ⟨Lc913, hQ913, l913, y913, z913⟩, st913⟩ := X912.specialBack hx (y := (⟨"com/example/links_to_sitemap/linkstositemap/SitemapFileWriter$Entry", "<init>", "(Ljava/lang/String;[Ljava/lang/String;)V"⟩ : MethodName)) rfl hown912 (mvT hZ912 (tw hw 51 rfl)) (mvT hZ912 (tw hw 52 rfl)) (mvT hZ912 (tw hw 53 rfl)) (by decide) (backOf (W := 1) (rmEntryN l Z a0 hw [] b911 b912  h912 n0 O919 (by omega : @LE.le Nat _ n0 b911) C914 C915 C916) hZ912 (tw hw 53 rfl) (tw hw 47 rfl) (by decide) (by decide)) (g := (mkF m 171 #[.val (.int p1), .val (.int p2), .val (.int p3), .val (.int p4), .val .null, .val (.ref b699), .val (.ref b721), .val (.int (1 : Int32)), .val .null, .unset, .unset, .unset, .unset] [.null, (.ref b912), (.ref b911), (.ref b911)])) rfl (by rw [hml]; rfl) (Steps.refl _) (a := b911) (argsL := [(.ref b912), .null]) (rest := [(.ref b911)]) (lenOf pd_10 rfl) rfl (by show 2 * 0 + _ ≤ _; exact Nat.le_of_eq rfl) (hb hby at_171) (fun _ _ => ⟨rfl, e912, (by decide : 9 + 0 ≤ _), (by decide : 104 + 0 ≤ _)⟩)
          dsimp only [Pt.U, Pt.locs, Pt.cells, Pt.slots] at X913 l913 y913 z913 st913 hQ913
          subst l913 y913 z913
          obtain ⟨rfl, N913q, K913, E913, F913⟩ := hQ913
          have sz14_K913 := K913.1
          have N913 := Fr.app N729 N913q
          have O920 : Old Z n0 T913.heap := O919.keep K913 (allS (by omega) (all0))
          obtain ⟨T921, X921, e921, st921⟩ := getS2 X913 hx hZ912 hown912 (host := "") (Or.inl (tw hw 59 rfl)) Via.refl rfl (Sta.ext O920.2 S_0) (g := (mkF m 178 #[.val (.int p1), .val (.int p2), .val (.int p3), .val (.int p4), .val .null, .val (.ref b699), .val (.ref b721), .val (.int (1 : Int32)), .val .null, .val (.ref b911), .unset, .unset, .unset] [(.ref b911)])) rfl (hb hby at_178)
          obtain ⟨cq922, kq922, q922a, q922b, q922c⟩ := isOf hZ912 e921 E913
          obtain ⟨_, _, ⟨T922, L922, k922, n922⟩, -, X922, ⟨Lc922, hQ922, l922, y922, z922⟩, st922⟩ := X921.virtualBack hx (y := (⟨"com/example/links_to_sitemap/linkstositemap/SitemapFileWriter$Entry", "field", "(Lcom/example/links_to_sitemap/linkstositemap/LinkField;)Ljava/lang/String;"⟩ : MethodName)) (z := (⟨"com/example/links_to_sitemap/linkstositemap/SitemapFileWriter$Entry", "field", "(Lcom/example/links_to_sitemap/linkstositemap/LinkField;)Ljava/lang/String;"⟩ : MethodName)) hown912 (mvT hZ912 (tw hw 62 rfl)) (mvT hZ912 (tw hw 63 rfl)) (notFace_of_selects (args := #[]) (mvT hZ912 (tw hw 65 rfl))) (mvT hZ912 (tw hw 65 rfl)) (mvT hZ912 (tw hw 64 rfl)) (by decide) (backOf (W := 0) (rmFieldN l Z a0 hw [] b911 lf0  T913.heap n0 O920 F913) hZ912 (tw hw 66 rfl) (tw hw 47 rfl) (by decide) (by decide)) q922a q922c (g := (mkF m 181 #[.val (.int p1), .val (.int p2), .val (.int p3), .val (.int p4), .val .null, .val (.ref b699), .val (.ref b721), .val (.int (1 : Int32)), .val .null, .val (.ref b911), .unset, .unset, .unset] [(.ref lf0), (.ref b911)])) rfl (by rw [hml]; rfl) (Steps.refl _) (argsL := [(.ref lf0)]) (rest := []) (lenOf pd_11 rfl) rfl (by show 2 * 0 + _ ≤ _; exact Nat.le_of_eq rfl) (hb hby at_181) (fun _ _ => ⟨rfl, e921, (by decide : 9 + 0 ≤ _), (by decide : 104 + 0 ≤ _)⟩)
          dsimp only [Pt.U, Pt.locs, Pt.cells, Pt.slots] at X922 l922 y922 z922 st922 hQ922
          subst l922 y922 z922
          obtain ⟨rfl, N922q, H922⟩ := hQ922
          have N922 := Fr.app N913 N922q
          obtain ⟨T923, X923, e923, st923⟩ := getS2 X922 hx hZ912 hown912 (host := "") (Or.inl (tw hw 76 rfl)) Via.refl H922 (Sta.ext O920.2 S_1) (g := (mkF m 188 #[.val (.int p1), .val (.int p2), .val (.int p3), .val (.int p4), .val .null, .val (.ref b699), .val (.ref b721), .val (.int (1 : Int32)), .val .null, .val (.ref b911), .val .null, .unset, .unset] [(.ref b911)])) rfl (hb hby at_188)
          obtain ⟨cq924, kq924, q924a, q924b, q924c⟩ := isOf hZ912 e923 E913
          obtain ⟨_, _, ⟨T924, L924, k924, n924⟩, -, X924, ⟨Lc924, hQ924, l924, y924, z924⟩, st924⟩ := X923.virtualBack hx (y := (⟨"com/example/links_to_sitemap/linkstositemap/SitemapFileWriter$Entry", "field", "(Lcom/example/links_to_sitemap/linkstositemap/LinkField;)Ljava/lang/String;"⟩ : MethodName)) (z := (⟨"com/example/links_to_sitemap/linkstositemap/SitemapFileWriter$Entry", "field", "(Lcom/example/links_to_sitemap/linkstositemap/LinkField;)Ljava/lang/String;"⟩ : MethodName)) hown912 (mvT hZ912 (tw hw 62 rfl)) (mvT hZ912 (tw hw 63 rfl)) (notFace_of_selects (args := #[]) (mvT hZ912 (tw hw 65 rfl))) (mvT hZ912 (tw hw 65 rfl)) (mvT hZ912 (tw hw 64 rfl)) (by decide) (backOf (W := 0) (rmFieldN l Z a0 hw [] b911 lf1  T913.heap n0 O920 F913) hZ912 (tw hw 66 rfl) (tw hw 47 rfl) (by decide) (by decide)) q924a q924c (g := (mkF m 191 #[.val (.int p1), .val (.int p2), .val (.int p3), .val (.int p4), .val .null, .val (.ref b699), .val (.ref b721), .val (.int (1 : Int32)), .val .null, .val (.ref b911), .val .null, .unset, .unset] [(.ref lf1), (.ref b911)])) rfl (by rw [hml]; rfl) (Steps.refl _) (argsL := [(.ref lf1)]) (rest := []) (lenOf pd_11 rfl) rfl (by show 2 * 0 + _ ≤ _; exact Nat.le_of_eq rfl) (hb hby at_191) (fun _ _ => ⟨rfl, e923, (by decide : 9 + 0 ≤ _), (by decide : 104 + 0 ≤ _)⟩)
          dsimp only [Pt.U, Pt.locs, Pt.cells, Pt.slots] at X924 l924 y924 z924 st924 hQ924
          subst l924 y924 z924
          obtain ⟨rfl, N924q, H924⟩ := hQ924
          have N924 := Fr.app N922 N924q
          obtain ⟨T925, X925, e925, st925⟩ := getS2 X924 hx hZ912 hown912 (host := "") (Or.inl (tw hw 78 rfl)) Via.refl H924 (Sta.ext O920.2 S_2) (g := (mkF m 198 #[.val (.int p1), .val (.int p2), .val (.int p3), .val (.int p4), .val .null, .val (.ref b699), .val (.ref b721), .val (.int (1 : Int32)), .val .null, .val (.ref b911), .val .null, .val .null, .unset] [(.ref b911)])) rfl (hb hby at_198)
          obtain ⟨cq926, kq926, q926a, q926b, q926c⟩ := isOf hZ912 e925 E913
          obtain ⟨_, _, ⟨T926, L926, k926, n926⟩, -, X926, ⟨Lc926, hQ926, l926, y926, z926⟩, st926⟩ := X925.virtualBack hx (y := (⟨"com/example/links_to_sitemap/linkstositemap/SitemapFileWriter$Entry", "field", "(Lcom/example/links_to_sitemap/linkstositemap/LinkField;)Ljava/lang/String;"⟩ : MethodName)) (z := (⟨"com/example/links_to_sitemap/linkstositemap/SitemapFileWriter$Entry", "field", "(Lcom/example/links_to_sitemap/linkstositemap/LinkField;)Ljava/lang/String;"⟩ : MethodName)) hown912 (mvT hZ912 (tw hw 62 rfl)) (mvT hZ912 (tw hw 63 rfl)) (notFace_of_selects (args := #[]) (mvT hZ912 (tw hw 65 rfl))) (mvT hZ912 (tw hw 65 rfl)) (mvT hZ912 (tw hw 64 rfl)) (by decide) (backOf (W := 0) (rmFieldN l Z a0 hw [] b911 lf2  T913.heap n0 O920 F913) hZ912 (tw hw 66 rfl) (tw hw 47 rfl) (by decide) (by decide)) q926a q926c (g := (mkF m 201 #[.val (.int p1), .val (.int p2), .val (.int p3), .val (.int p4), .val .null, .val (.ref b699), .val (.ref b721), .val (.int (1 : Int32)), .val .null, .val (.ref b911), .val .null, .val .null, .unset] [(.ref lf2), (.ref b911)])) rfl (by rw [hml]; rfl) (Steps.refl _) (argsL := [(.ref lf2)]) (rest := []) (lenOf pd_11 rfl) rfl (by show 2 * 0 + _ ≤ _; exact Nat.le_of_eq rfl) (hb hby at_201) (fun _ _ => ⟨rfl, e925, (by decide : 9 + 0 ≤ _), (by decide : 104 + 0 ≤ _)⟩)
          dsimp only [Pt.U, Pt.locs, Pt.cells, Pt.slots] at X926 l926 y926 z926 st926 hQ926
          subst l926 y926 z926
          obtain ⟨rfl, N926q, H926⟩ := hQ926
          have N926 := Fr.app N924 N926q
          obtain ⟨fs, hr, hrun, hended, eR, eW, eI, eS⟩ := Stand.leaveW (s := s) (vm₁ := T912.vm) X926 hS912 (by rw [H926]; omega) (v := some (.int (1 : Int32))) (fun h => by rw [Bd.returns] at h; cases h)
          refine ⟨_, _, pre749 _ ?_, hrun, hended, _, _, rfl, ?_, eR, eW, eI, eS.mono (by decide) (by decide)⟩
          · skip
            show Steps p.tables e below (T729.setTop (mkF m 123 #[.val (.int p1), .val (.int p2), .val (.int p3), .val (.int p4), .val .null, .val (.ref b699), .val (.ref b721), .unset, .unset, .unset, .unset, .unset, .unset] [(.int (p1 &&& (8 : Int32)))])) _
            refine XS.ifNo X729.here hx rfl (hb hby at_123) rfl ((if0 _ _).trans (feq hc748).1) ?_
            show Steps p.tables e below (T729.setTop (mkF m 126 #[.val (.int p1), .val (.int p2), .val (.int p3), .val (.int p4), .val .null, .val (.ref b699), .val (.ref b721), .unset, .unset, .unset, .unset, .unset, .unset] [])) _
            refine XS.iconst X729.here hx rfl (hb hby at_126) ?_
            show Steps p.tables e below (T729.setTop (mkF m 127 #[.val (.int p1), .val (.int p2), .val (.int p3), .val (.int p4), .val .null, .val (.ref b699), .val (.ref b721), .unset, .unset, .unset, .unset, .unset, .unset] [(.int (1 : Int32))])) _
            refine XS.goto X729.here hx rfl (pc0 := 127) (pc' := 131) rfl (hb hby at_127) (by decide) (by decide) ?_
            show Steps p.tables e below (T729.setTop (mkF m 131 #[.val (.int p1), .val (.int p2), .val (.int p3), .val (.int p4), .val .null, .val (.ref b699), .val (.ref b721), .unset, .unset, .unset, .unset, .unset, .unset] [(.int (1 : Int32))])) _
            refine XS.istore X729.here hx rfl (hb hby at_131) rfl (l' := #[.val (.int p1), .val (.int p2), .val (.int p3), .val (.int p4), .val .null, .val (.ref b699), .val (.ref b721), .val (.int (1 : Int32)), .unset, .unset, .unset, .unset, .unset]) rfl ?_
            show Steps p.tables e below (T729.setTop (mkF m 133 #[.val (.int p1), .val (.int p2), .val (.int p3), .val (.int p4), .val .null, .val (.ref b699), .val (.ref b721), .val (.int (1 : Int32)), .unset, .unset, .unset, .unset, .unset] [])) _
            refine XS.iload X729.here hx rfl (hb hby at_133) rfl ?_
            show Steps p.tables e below (T729.setTop (mkF m 135 #[.val (.int p1), .val (.int p2), .val (.int p3), .val (.int p4), .val .null, .val (.ref b699), .val (.ref b721), .val (.int (1 : Int32)), .unset, .unset, .unset, .unset, .unset] [(.int (1 : Int32))])) _
            refine XS.ifNo X729.here hx rfl (hb hby at_135) rfl ((if0 _ _).trans (feq (by decide : ¬ ((1 : Int32) = (0 : Int32)))).1) ?_
            show Steps p.tables e below (T729.setTop (mkF m 138 #[.val (.int p1), .val (.int p2), .val (.int p3), .val (.int p4), .val .null, .val (.ref b699), .val (.ref b721), .val (.int (1 : Int32)), .unset, .unset, .unset, .unset, .unset] [])) _
            refine XS.aconstNull X729.here hx rfl (hb hby at_138) ?_
            show Steps p.tables e below (T729.setTop (mkF m 139 #[.val (.int p1), .val (.int p2), .val (.int p3), .val (.int p4), .val .null, .val (.ref b699), .val (.ref b721), .val (.int (1 : Int32)), .unset, .unset, .unset, .unset, .unset] [.null])) _
            refine XS.goto X729.here hx rfl (pc0 := 139) (pc' := 161) rfl (hb hby at_139) (by decide) (by decide) ?_
            show Steps p.tables e below (T729.setTop (mkF m 161 #[.val (.int p1), .val (.int p2), .val (.int p3), .val (.int p4), .val .null, .val (.ref b699), .val (.ref b721), .val (.int (1 : Int32)), .unset, .unset, .unset, .unset, .unset] [.null])) _
            refine XS.astore X729.here hx rfl (hb hby at_161) rfl rfl (l' := #[.val (.int p1), .val (.int p2), .val (.int p3), .val (.int p4), .val .null, .val (.ref b699), .val (.ref b721), .val (.int (1 : Int32)), .val .null, .unset, .unset, .unset, .unset]) rfl ?_
            show Steps p.tables e below (T729.setTop (mkF m 163 #[.val (.int p1), .val (.int p2), .val (.int p3), .val (.int p4), .val .null, .val (.ref b699), .val (.ref b721), .val (.int (1 : Int32)), .val .null, .unset, .unset, .unset, .unset] [])) _
            refine st911 _ ?_
            show Steps p.tables e below (T911.setTop (mkF m 166 #[.val (.int p1), .val (.int p2), .val (.int p3), .val (.int p4), .val .null, .val (.ref b699), .val (.ref b721), .val (.int (1 : Int32)), .val .null, .unset, .unset, .unset, .unset] [(.ref b911)])) _
            refine XS.dup X911.here hx rfl (hb hby at_166) rfl rfl ?_
            show Steps p.tables e below (T911.setTop (mkF m 167 #[.val (.int p1), .val (.int p2), .val (.int p3), .val (.int p4), .val .null, .val (.ref b699), .val (.ref b721), .val (.int (1 : Int32)), .val .null, .unset, .unset, .unset, .unset] [(.ref b911), (.ref b911)])) _
            refine st912 _ ?_
            show Steps p.tables e below (T912.setTop (mkF m 169 #[.val (.int p1), .val (.int p2), .val (.int p3), .val (.int p4), .val .null, .val (.ref b699), .val (.ref b721), .val (.int (1 : Int32)), .val .null, .unset, .unset, .unset, .unset] [(.ref b912), (.ref b911), (.ref b911)])) _
            refine XS.aload X912.here hx rfl (hb hby at_169) rfl rfl ?_
            show Steps p.tables e below (T912.setTop (mkF m 171 #[.val (.int p1), .val (.int p2), .val (.int p3), .val (.int p4), .val .null, .val (.ref b699), .val (.ref b721), .val (.int (1 : Int32)), .val .null, .unset, .unset, .unset, .unset] [.null, (.ref b912), (.ref b911), (.ref b911)])) _
            refine st913.trans ?_
            show Steps p.tables e below (T913.setTop (mkF m 174 #[.val (.int p1), .val (.int p2), .val (.int p3), .val (.int p4), .val .null, .val (.ref b699), .val (.ref b721), .val (.int (1 : Int32)), .val .null, .unset, .unset, .unset, .unset] [(.ref b911)])) _
            refine XS.astore X913.here hx rfl (hb hby at_174) rfl rfl (l' := #[.val (.int p1), .val (.int p2), .val (.int p3), .val (.int p4), .val .null, .val (.ref b699), .val (.ref b721), .val (.int (1 : Int32)), .val .null, .val (.ref b911), .unset, .unset, .unset]) rfl ?_
            show Steps p.tables e below (T913.setTop (mkF m 176 #[.val (.int p1), .val (.int p2), .val (.int p3), .val (.int p4), .val .null, .val (.ref b699), .val (.ref b721), .val (.int (1 : Int32)), .val .null, .val (.ref b911), .unset, .unset, .unset] [])) _
            refine XS.aload X913.here hx rfl (hb hby at_176) rfl rfl ?_
            show Steps p.tables e below (T913.setTop (mkF m 178 #[.val (.int p1), .val (.int p2), .val (.int p3), .val (.int p4), .val .null, .val (.ref b699), .val (.ref b721), .val (.int (1 : Int32)), .val .null, .val (.ref b911), .unset, .unset, .unset] [(.ref b911)])) _
            refine st921 _ ?_
            show Steps p.tables e below (T921.setTop (mkF m 181 #[.val (.int p1), .val (.int p2), .val (.int p3), .val (.int p4), .val .null, .val (.ref b699), .val (.ref b721), .val (.int (1 : Int32)), .val .null, .val (.ref b911), .unset, .unset, .unset] [(.ref lf0), (.ref b911)])) _
            refine st922.trans ?_
            show Steps p.tables e below (T922.setTop (mkF m 184 #[.val (.int p1), .val (.int p2), .val (.int p3), .val (.int p4), .val .null, .val (.ref b699), .val (.ref b721), .val (.int (1 : Int32)), .val .null, .val (.ref b911), .unset, .unset, .unset] [.null])) _
            refine XS.astore X922.here hx rfl (hb hby at_184) rfl rfl (l' := #[.val (.int p1), .val (.int p2), .val (.int p3), .val (.int p4), .val .null, .val (.ref b699), .val (.ref b721), .val (.int (1 : Int32)), .val .null, .val (.ref b911), .val .null, .unset, .unset]) rfl ?_
            show Steps p.tables e below (T922.setTop (mkF m 186 #[.val (.int p1), .val (.int p2), .val (.int p3), .val (.int p4), .val .null, .val (.ref b699), .val (.ref b721), .val (.int (1 : Int32)), .val .null, .val (.ref b911), .val .null, .unset, .unset] [])) _
            refine XS.aload X922.here hx rfl (hb hby at_186) rfl rfl ?_
            show Steps p.tables e below (T922.setTop (mkF m 188 #[.val (.int p1), .val (.int p2), .val (.int p3), .val (.int p4), .val .null, .val (.ref b699), .val (.ref b721), .val (.int (1 : Int32)), .val .null, .val (.ref b911), .val .null, .unset, .unset] [(.ref b911)])) _
            refine st923 _ ?_
            show Steps p.tables e below (T923.setTop (mkF m 191 #[.val (.int p1), .val (.int p2), .val (.int p3), .val (.int p4), .val .null, .val (.ref b699), .val (.ref b721), .val (.int (1 : Int32)), .val .null, .val (.ref b911), .val .null, .unset, .unset] [(.ref lf1), (.ref b911)])) _
            refine st924.trans ?_
            show Steps p.tables e below (T924.setTop (mkF m 194 #[.val (.int p1), .val (.int p2), .val (.int p3), .val (.int p4), .val .null, .val (.ref b699), .val (.ref b721), .val (.int (1 : Int32)), .val .null, .val (.ref b911), .val .null, .unset, .unset] [.null])) _
            refine XS.astore X924.here hx rfl (hb hby at_194) rfl rfl (l' := #[.val (.int p1), .val (.int p2), .val (.int p3), .val (.int p4), .val .null, .val (.ref b699), .val (.ref b721), .val (.int (1 : Int32)), .val .null, .val (.ref b911), .val .null, .val .null, .unset]) rfl ?_
            show Steps p.tables e below (T924.setTop (mkF m 196 #[.val (.int p1), .val (.int p2), .val (.int p3), .val (.int p4), .val .null, .val (.ref b699), .val (.ref b721), .val (.int (1 : Int32)), .val .null, .val (.ref b911), .val .null, .val .null, .unset] [])) _
            refine XS.aload X924.here hx rfl (hb hby at_196) rfl rfl ?_
            show Steps p.tables e below (T924.setTop (mkF m 198 #[.val (.int p1), .val (.int p2), .val (.int p3), .val (.int p4), .val .null, .val (.ref b699), .val (.ref b721), .val (.int (1 : Int32)), .val .null, .val (.ref b911), .val .null, .val .null, .unset] [(.ref b911)])) _
            refine st925 _ ?_
            show Steps p.tables e below (T925.setTop (mkF m 201 #[.val (.int p1), .val (.int p2), .val (.int p3), .val (.int p4), .val .null, .val (.ref b699), .val (.ref b721), .val (.int (1 : Int32)), .val .null, .val (.ref b911), .val .null, .val .null, .unset] [(.ref lf2), (.ref b911)])) _
            refine st926.trans ?_
            show Steps p.tables e below (T926.setTop (mkF m 204 #[.val (.int p1), .val (.int p2), .val (.int p3), .val (.int p4), .val .null, .val (.ref b699), .val (.ref b721), .val (.int (1 : Int32)), .val .null, .val (.ref b911), .val .null, .val .null, .unset] [.null])) _
            refine XS.astore X926.here hx rfl (hb hby at_204) rfl rfl (l' := #[.val (.int p1), .val (.int p2), .val (.int p3), .val (.int p4), .val .null, .val (.ref b699), .val (.ref b721), .val (.int (1 : Int32)), .val .null, .val (.ref b911), .val .null, .val .null, .val .null]) rfl ?_
            show Steps p.tables e below (T926.setTop (mkF m 206 #[.val (.int p1), .val (.int p2), .val (.int p3), .val (.int p4), .val .null, .val (.ref b699), .val (.ref b721), .val (.int (1 : Int32)), .val .null, .val (.ref b911), .val .null, .val .null, .val .null] [])) _
            refine XS.iload X926.here hx rfl (hb hby at_206) rfl ?_
            show Steps p.tables e below (T926.setTop (mkF m 208 #[.val (.int p1), .val (.int p2), .val (.int p3), .val (.int p4), .val .null, .val (.ref b699), .val (.ref b721), .val (.int (1 : Int32)), .val .null, .val (.ref b911), .val .null, .val .null, .val .null] [(.int (1 : Int32))])) _
            refine XS.ifNo X926.here hx rfl (hb hby at_208) rfl ((if0 _ _).trans (feq (by decide : ¬ ((1 : Int32) = (0 : Int32)))).1) ?_
            show Steps p.tables e below (T926.setTop (mkF m 211 #[.val (.int p1), .val (.int p2), .val (.int p3), .val (.int p4), .val .null, .val (.ref b699), .val (.ref b721), .val (.int (1 : Int32)), .val .null, .val (.ref b911), .val .null, .val .null, .val .null] [])) _
            refine XS.aload X926.here hx rfl (hb hby at_211) rfl rfl ?_
            show Steps p.tables e below (T926.setTop (mkF m 213 #[.val (.int p1), .val (.int p2), .val (.int p3), .val (.int p4), .val .null, .val (.ref b699), .val (.ref b721), .val (.int (1 : Int32)), .val .null, .val (.ref b911), .val .null, .val .null, .val .null] [.null])) _
            refine XS.ifnonnullNo X926.here hx rfl (hb hby at_213) rfl ?_
            show Steps p.tables e below (T926.setTop (mkF m 216 #[.val (.int p1), .val (.int p2), .val (.int p3), .val (.int p4), .val .null, .val (.ref b699), .val (.ref b721), .val (.int (1 : Int32)), .val .null, .val (.ref b911), .val .null, .val .null, .val .null] [])) _
            refine XS.aload X926.here hx rfl (hb hby at_216) rfl rfl ?_
            show Steps p.tables e below (T926.setTop (mkF m 218 #[.val (.int p1), .val (.int p2), .val (.int p3), .val (.int p4), .val .null, .val (.ref b699), .val (.ref b721), .val (.int (1 : Int32)), .val .null, .val (.ref b911), .val .null, .val .null, .val .null] [.null])) _
            refine XS.ifnonnullNo X926.here hx rfl (hb hby at_218) rfl ?_
            show Steps p.tables e below (T926.setTop (mkF m 221 #[.val (.int p1), .val (.int p2), .val (.int p3), .val (.int p4), .val .null, .val (.ref b699), .val (.ref b721), .val (.int (1 : Int32)), .val .null, .val (.ref b911), .val .null, .val .null, .val .null] [])) _
            refine XS.aload X926.here hx rfl (hb hby at_221) rfl rfl ?_
            show Steps p.tables e below (T926.setTop (mkF m 223 #[.val (.int p1), .val (.int p2), .val (.int p3), .val (.int p4), .val .null, .val (.ref b699), .val (.ref b721), .val (.int (1 : Int32)), .val .null, .val (.ref b911), .val .null, .val .null, .val .null] [.null])) _
            refine XS.ifnonnullNo X926.here hx rfl (hb hby at_223) rfl ?_
            show Steps p.tables e below (T926.setTop (mkF m 226 #[.val (.int p1), .val (.int p2), .val (.int p3), .val (.int p4), .val .null, .val (.ref b699), .val (.ref b721), .val (.int (1 : Int32)), .val .null, .val (.ref b911), .val .null, .val .null, .val .null] [])) _
            refine XS.iconst X926.here hx rfl (hb hby at_226) ?_
            show Steps p.tables e below (T926.setTop (mkF m 227 #[.val (.int p1), .val (.int p2), .val (.int p3), .val (.int p4), .val .null, .val (.ref b699), .val (.ref b721), .val (.int (1 : Int32)), .val .null, .val (.ref b911), .val .null, .val .null, .val .null] [(.int (1 : Int32))])) _
            refine XS.goto X926.here hx rfl (pc0 := 227) (pc' := 231) rfl (hb hby at_227) (by decide) (by decide) ?_
            show Steps p.tables e below (T926.setTop (mkF m 231 #[.val (.int p1), .val (.int p2), .val (.int p3), .val (.int p4), .val .null, .val (.ref b699), .val (.ref b721), .val (.int (1 : Int32)), .val .null, .val (.ref b911), .val .null, .val .null, .val .null] [(.int (1 : Int32))])) _
            exact retN X926 hx (t := .boolean) Bd.returns (by simp) (hb hby at_231) hr
          · show Q_rm0 Z p1 p2 p3 p4 cs lf0 lf1 lf2 h0 n0 _ T926.heap _
            rw [H926]
            exact ⟨rfl, N926⟩
      · skip
        have pre928 : ∀ t, Steps p.tables e below (T705.setTop (mkF m 123 #[.val (.int p1), .val (.int p2), .val (.int p3), .val (.int p4), .val .null, .val (.ref b699), .val .null, .unset, .unset, .unset, .unset, .unset, .unset] [(.int (p1 &&& (8 : Int32)))])) t → Steps p.tables e below (s₁.setTop (entryFrame m #[(.int p1), (.int p2), (.int p3), (.int p4)] maxLocals)) t := by
          intro t kt
          refine pre720 _ ?_
          show Steps p.tables e below (T705.setTop (mkF m 67 #[.val (.int p1), .val (.int p2), .val (.int p3), .val (.int p4), .val .null, .val (.ref b699), .unset, .unset, .unset, .unset, .unset, .unset, .unset] [(.int (p1 &&& (4 : Int32)))])) _
          refine XS.ifNo X705.here hx rfl (hb hby at_67) rfl ((if0 _ _).trans (feq hc719).1) ?_
          show Steps p.tables e below (T705.setTop (mkF m 70 #[.val (.int p1), .val (.int p2), .val (.int p3), .val (.int p4), .val .null, .val (.ref b699), .unset, .unset, .unset, .unset, .unset, .unset, .unset] [])) _
          refine XS.aconstNull X705.here hx rfl (hb hby at_70) ?_
          show Steps p.tables e below (T705.setTop (mkF m 71 #[.val (.int p1), .val (.int p2), .val (.int p3), .val (.int p4), .val .null, .val (.ref b699), .unset, .unset, .unset, .unset, .unset, .unset, .unset] [.null])) _
          refine XS.goto X705.here hx rfl (pc0 := 71) (pc' := 117) rfl (hb hby at_71) (by decide) (by decide) ?_
          show Steps p.tables e below (T705.setTop (mkF m 117 #[.val (.int p1), .val (.int p2), .val (.int p3), .val (.int p4), .val .null, .val (.ref b699), .unset, .unset, .unset, .unset, .unset, .unset, .unset] [.null])) _
          refine XS.astore X705.here hx rfl (hb hby at_117) rfl rfl (l' := #[.val (.int p1), .val (.int p2), .val (.int p3), .val (.int p4), .val .null, .val (.ref b699), .val .null, .unset, .unset, .unset, .unset, .unset, .unset]) rfl ?_
          show Steps p.tables e below (T705.setTop (mkF m 119 #[.val (.int p1), .val (.int p2), .val (.int p3), .val (.int p4), .val .null, .val (.ref b699), .val .null, .unset, .unset, .unset, .unset, .unset, .unset] [])) _
          refine XS.iloadN X705.here hx rfl (hb hby at_119) rfl ?_
          show Steps p.tables e below (T705.setTop (mkF m 120 #[.val (.int p1), .val (.int p2), .val (.int p3), .val (.int p4), .val .null, .val (.ref b699), .val .null, .unset, .unset, .unset, .unset, .unset, .unset] [(.int p1)])) _
          refine XS.bipush X705.here hx rfl (hb hby at_120) ?_
          show Steps p.tables e below (T705.setTop (mkF m 122 #[.val (.int p1), .val (.int p2), .val (.int p3), .val (.int p4), .val .null, .val (.ref b699), .val .null, .unset, .unset, .unset, .unset, .unset, .unset] [(.int (8 : Int32)), (.int p1)])) _
          refine XS.iand X705.here hx rfl (hb hby at_122) rfl ?_
          exact kt
        by_cases hc927 : (p1 &&& (8 : Int32)) = (0 : Int32)
        · skip
          obtain ⟨T929, h929, k929, X929, e929, E929, A929, O929, st929⟩ := newR X705 hx hZ hown (tw hw 26 rfl) (tw hw 44 rfl) rfl (g := (mkF m 143 #[.val (.int p1), .val (.int p2), .val (.int p3), .val (.int p4), .val .null, .val (.ref b699), .val .null, .val (.int (0 : Int32)), .unset, .unset, .unset, .unset, .unset] [(.int (3 : Int32))])) rfl (hb hby at_143) rfl (by decide) (cap := 3) (by decide) (by decide) (by decide) (by decide)
          obtain ⟨b929, g929⟩ : ∃ z, z = T705.heap.size := ⟨_, rfl⟩
          rw [← g929] at A929 st929
          have V929 : Arv Z h929 b929 k929 (.object "java/lang/String") (3 : Int32) [.null, .null, .null] .null := (Arv.new A929 (by decide)).pad (pad_rep [] .null 3)
          have lt929 : @LT.lt Nat _ b929 h929.size := V929.lt
          have K929 : Keep T705.heap h929 [] := (Keep.refl _ _).ext E929
          have sz6_K929 := K929.1
          obtain ⟨cl930, Ar930, q930, S930, Nn930, H930, G930⟩ := V929
          obtain ⟨T931, h931, X931, e931, W931, st931⟩ := stR X929 hx hZ e929 Ar930 (j := (0 : Int32)) (inb_of S930 ⟨by decide, by decide⟩) rfl (Or.inl rfl) (g := (mkF m 150 #[.val (.int p1), .val (.int p2), .val (.int p3), .val (.int p4), .val .null, .val (.ref b699), .val .null, .val (.int (0 : Int32)), .unset, .unset, .unset, .unset, .unset] [.null, (.int (0 : Int32)), (.ref b929), (.ref b929)])) rfl rfl (hb hby at_150)
          have V931 : Arv Z h931 b929 k929 (.object "java/lang/String") (3 : Int32) [.null, .null, .null] .null := Arv.set Ar930 q930 S930 Nn930 H930 G930 rfl W931 0 rfl (Nat.le_of_ble_eq_true rfl)
          have K931 := Keep.of_wr W931
          have N931 := Fr.snoc X931 N705 (by omega : @LE.le Nat _ n0 b929)
          have sz7_K931 := K931.1
          obtain ⟨cl932, Ar932, q932, S932, Nn932, H932, G932⟩ := V931
          have C933 := E705.keep K929
          have C934 := C933.keep K931
          obtain ⟨T935, h935, X935, e935, W935, st935⟩ := stR X931 hx hZ e931 Ar932 (j := (1 : Int32)) (inb_of S932 ⟨by decide, by decide⟩) rfl (Sto.ofV Ar932 q932 O929 (Ins.self C934)) (g := (mkF m 155 #[.val (.int p1), .val (.int p2), .val (.int p3), .val (.int p4), .val .null, .val (.ref b699), .val .null, .val (.int (0 : Int32)), .unset, .unset, .unset, .unset, .unset] [(.ref b699), (.int (1 : Int32)), (.ref b929), (.ref b929)])) rfl rfl (hb hby at_155)
          have V935 : Arv Z h935 b929 k929 (.object "java/lang/String") (3 : Int32) [.null, (.ref b699), .null] .null := Arv.set Ar932 q932 S932 Nn932 H932 G932 rfl W935 1 rfl (Nat.le_of_ble_eq_true rfl)
          have K935 := Keep.of_wr W935
          have N935 := Fr.snoc X935 N931 (by omega : @LE.le Nat _ n0 b929)
          have sz8_K935 := K935.1
          obtain ⟨cl936, Ar936, q936, S936, Nn936, H936, G936⟩ := V935
          obtain ⟨T937, h937, X937, e937, W937, st937⟩ := stR X935 hx hZ e935 Ar936 (j := (2 : Int32)) (inb_of S936 ⟨by decide, by decide⟩) rfl (Or.inl rfl) (g := (mkF m 160 #[.val (.int p1), .val (.int p2), .val (.int p3), .val (.int p4), .val .null, .val (.ref b699), .val .null, .val (.int (0 : Int32)), .unset, .unset, .unset, .unset, .unset] [.null, (.int (2 : Int32)), (.ref b929), (.ref b929)])) rfl rfl (hb hby at_160)
          have V937 : Arv Z h937 b929 k929 (.object "java/lang/String") (3 : Int32) [.null, (.ref b699), .null] .null := Arv.set Ar936 q936 S936 Nn936 H936 G936 rfl W937 2 rfl (Nat.le_of_ble_eq_true rfl)
          have K937 := Keep.of_wr W937
          have N937 := Fr.snoc X937 N935 (by omega : @LE.le Nat _ n0 b929)
          have sz9_K937 := K937.1
          obtain ⟨T938, h938, X938, e938, E938, A938, D938, -, st938⟩ := newO X937 hx hZ hown (tw hw 45 rfl) (tw hw 46 rfl) (tw hw 47 rfl) e937 (g := (mkF m 163 #[.val (.int p1), .val (.int p2), .val (.int p3), .val (.int p4), .val .null, .val (.ref b699), .val .null, .val (.int (0 : Int32)), .val (.ref b929), .unset, .unset, .unset, .unset] [])) rfl (hb hby at_163) (by decide) (by decide)
          obtain ⟨b938, g938⟩ : ∃ z, z = h937.size := ⟨_, rfl⟩
          rw [← g938] at A938 D938 st938
          have lt938 : @LT.lt Nat _ b938 h938.size := A938.lt
          have K938 : Keep h937 h938 [] := (Keep.refl _ _).ext E938
          have sz10_K938 := K938.1
          have F938_loc : Fld Z h938 b938 "com/example/links_to_sitemap/linkstositemap/SitemapFileWriter$Entry" "loc" "Ljava/lang/String;" .null := D938 (Or.inr (tw hw 56 rfl)) (ty := (.object "java/lang/String")) (by decide)
          have F938_fields : Fld Z h938 b938 "com/example/links_to_sitemap/linkstositemap/SitemapFileWriter$Entry" "fields" "[Ljava/lang/String;" .null := D938 (Or.inr (tw hw 58 rfl)) (ty := (.array (.object "java/lang/String"))) (by decide)
          obtain ⟨b939, T939, h939, k939, X939, e939, E939, hS939, hk939, hZ939, hown939, st939⟩ := ldcS (s := s) (vm0 := s.vm) X938 hx hZ hown (tw hw 48 rfl) wStr e938 hS0 (by omega) (g := (mkF m 167 #[.val (.int p1), .val (.int p2), .val (.int p3), .val (.int p4), .val .null, .val (.ref b699), .val .null, .val (.int (0 : Int32)), .val (.ref b929), .unset, .unset, .unset, .unset] [(.ref b938), (.ref b938)])) rfl (hb hby at_167) (n := 80) (by decide) (by decide) (by decide) (by decide)
          have K939 : Keep h938 h939 [] := (Keep.refl _ _).ext E939
          have sz11_K939 := K939.1
          have C941 := A938.keep K939
          have C942 := F938_loc.keep K939 nin0
          have C943 := F938_fields.keep K939 nin0
          have O944 : Old Z n0 T705.heap := O718.keep K705 (allS (by omega) (all0))
          have O945 : Old Z n0 h929 := O944.keep K929 all0
          have O946 : Old Z n0 h931 := O945.keep K931 (allS (by omega) (all0))
          have O947 : Old Z n0 h935 := O946.keep K935 (allS (by omega) (all0))
          have O948 : Old Z n0 h937 := O947.keep K937 (allS (by omega) (all0))
          have O949 : Old Z n0 h938 := O948.keep K938 all0
          have O950 : Old Z n0 h939 := O949.keep K939 all0
          obtain ⟨_, _, ⟨T940, L940, k940, n940⟩, -, X940, ⟨Lc940, hQ940, l940, y940, z940⟩, st940⟩ := X939.specialBack hx (y := (⟨"com/example/links_to_sitemap/linkstositemap/SitemapFileWriter$Entry", "<init>", "(Ljava/lang/String;[Ljava/lang/String;)V"⟩ : MethodName)) rfl hown939 (mvT hZ939 (tw hw 51 rfl)) (mvT hZ939 (tw hw 52 rfl)) (mvT hZ939 (tw hw 53 rfl)) (by decide) (backOf (W := 1) (rmEntryA l Z a0 hw [] b938 b939 b929  h939 n0 O950 (by omega : @LE.le Nat _ n0 b938) C941 C942 C943) hZ939 (tw hw 53 rfl) (tw hw 47 rfl) (by decide) (by decide)) (g := (mkF m 171 #[.val (.int p1), .val (.int p2), .val (.int p3), .val (.int p4), .val .null, .val (.ref b699), .val .null, .val (.int (0 : Int32)), .val (.ref b929), .unset, .unset, .unset, .unset] [(.ref b929), (.ref b939), (.ref b938), (.ref b938)])) rfl (by rw [hml]; rfl) (Steps.refl _) (a := b938) (argsL := [(.ref b939), (.ref b929)]) (rest := [(.ref b938)]) (lenOf pd_10 rfl) rfl (by show 2 * 0 + _ ≤ _; exact Nat.le_of_eq rfl) (hb hby at_171) (fun _ _ => ⟨rfl, e939, (by decide : 7 + 0 ≤ _), (by decide : 97 + 0 ≤ _)⟩)
          dsimp only [Pt.U, Pt.locs, Pt.cells, Pt.slots] at X940 l940 y940 z940 st940 hQ940
          subst l940 y940 z940
          obtain ⟨rfl, N940q, K940, E940, F940⟩ := hQ940
          have sz12_K940 := K940.1
          have N940 := Fr.app N937 N940q
          have O951 : Old Z n0 T940.heap := O950.keep K940 (allS (by omega) (all0))
          obtain ⟨T952, X952, e952, st952⟩ := getS2 X940 hx hZ939 hown939 (host := "") (Or.inl (tw hw 59 rfl)) Via.refl rfl (Sta.ext O951.2 S_0) (g := (mkF m 178 #[.val (.int p1), .val (.int p2), .val (.int p3), .val (.int p4), .val .null, .val (.ref b699), .val .null, .val (.int (0 : Int32)), .val (.ref b929), .val (.ref b938), .unset, .unset, .unset] [(.ref b938)])) rfl (hb hby at_178)
          have C954 := V937.keep K938 nin0
          have C955 := C954.keep K939 nin0
          have C956 := C955.keep K940 (ninS (by omega : @Ne Nat b929 b938) (nin0))
          have C957 := E_0.keep K699
          have C958 := C957.keep K700
          have C959 := C958.keep K702
          have C960 := C959.keep K704
          have C961 := C960.keep K705
          have C962 := C961.keep K929
          have C963 := C962.keep K931
          have C964 := C963.keep K935
          have C965 := C964.keep K937
          have C966 := C965.keep K938
          have C967 := C966.keep K939
          have C968 := C967.keep K940
          have C969 := F_0.keep K699 nin0
          have C970 := C969.keep K700 nin0
          have C971 := C970.keep K702 (ninS (by omega : @Ne Nat lf0 b700) (nin0))
          have C972 := C971.keep K704 (ninS (by omega : @Ne Nat lf0 b700) (nin0))
          have C973 := C972.keep K705 (ninS (by omega : @Ne Nat lf0 b699) (nin0))
          have C974 := C973.keep K929 nin0
          have C975 := C974.keep K931 (ninS (by omega : @Ne Nat lf0 b929) (nin0))
          have C976 := C975.keep K935 (ninS (by omega : @Ne Nat lf0 b929) (nin0))
          have C977 := C976.keep K937 (ninS (by omega : @Ne Nat lf0 b929) (nin0))
          have C978 := C977.keep K938 nin0
          have C979 := C978.keep K939 nin0
          have C980 := C979.keep K940 (ninS (by omega : @Ne Nat lf0 b938) (nin0))
          obtain ⟨cq953, kq953, q953a, q953b, q953c⟩ := isOf hZ939 e952 E940
          obtain ⟨_, _, ⟨T953, L953, k953, n953⟩, -, X953, ⟨Lc953, hQ953, l953, y953, z953⟩, st953⟩ := X952.virtualBack hx (y := (⟨"com/example/links_to_sitemap/linkstositemap/SitemapFileWriter$Entry", "field", "(Lcom/example/links_to_sitemap/linkstositemap/LinkField;)Ljava/lang/String;"⟩ : MethodName)) (z := (⟨"com/example/links_to_sitemap/linkstositemap/SitemapFileWriter$Entry", "field", "(Lcom/example/links_to_sitemap/linkstositemap/LinkField;)Ljava/lang/String;"⟩ : MethodName)) hown939 (mvT hZ939 (tw hw 62 rfl)) (mvT hZ939 (tw hw 63 rfl)) (notFace_of_selects (args := #[]) (mvT hZ939 (tw hw 65 rfl))) (mvT hZ939 (tw hw 65 rfl)) (mvT hZ939 (tw hw 64 rfl)) (by decide) (backOf (W := 0) (rmFieldA l Z a0 hw [] b938 lf0 b929 k929 [.null, (.ref b699), .null] .null (0 : Int32) T940.heap n0 O951 F940 C956 C968 C980 (by decide) (by decide) rfl rfl) hZ939 (tw hw 66 rfl) (tw hw 47 rfl) (by decide) (by decide)) q953a q953c (g := (mkF m 181 #[.val (.int p1), .val (.int p2), .val (.int p3), .val (.int p4), .val .null, .val (.ref b699), .val .null, .val (.int (0 : Int32)), .val (.ref b929), .val (.ref b938), .unset, .unset, .unset] [(.ref lf0), (.ref b938)])) rfl (by rw [hml]; rfl) (Steps.refl _) (argsL := [(.ref lf0)]) (rest := []) (lenOf pd_11 rfl) rfl (by show 2 * 0 + _ ≤ _; exact Nat.le_of_eq rfl) (hb hby at_181) (fun _ _ => ⟨rfl, e952, (by decide : 7 + 0 ≤ _), (by decide : 97 + 0 ≤ _)⟩)
          dsimp only [Pt.U, Pt.locs, Pt.cells, Pt.slots] at X953 l953 y953 z953 st953 hQ953
          subst l953 y953 z953
          obtain ⟨rfl, N953q, H953⟩ := hQ953
          have N953 := Fr.app N940 N953q
          obtain ⟨T981, X981, e981, st981⟩ := getS2 X953 hx hZ939 hown939 (host := "") (Or.inl (tw hw 76 rfl)) Via.refl H953 (Sta.ext O951.2 S_1) (g := (mkF m 188 #[.val (.int p1), .val (.int p2), .val (.int p3), .val (.int p4), .val .null, .val (.ref b699), .val .null, .val (.int (0 : Int32)), .val (.ref b929), .val (.ref b938), .val .null, .unset, .unset] [(.ref b938)])) rfl (hb hby at_188)
          have C983 := E_1.keep K699
          have C984 := C983.keep K700
          have C985 := C984.keep K702
          have C986 := C985.keep K704
          have C987 := C986.keep K705
          have C988 := C987.keep K929
          have C989 := C988.keep K931
          have C990 := C989.keep K935
          have C991 := C990.keep K937
          have C992 := C991.keep K938
          have C993 := C992.keep K939
          have C994 := C993.keep K940
          have C995 := F_1.keep K699 nin0
          have C996 := C995.keep K700 nin0
          have C997 := C996.keep K702 (ninS (by omega : @Ne Nat lf1 b700) (nin0))
          have C998 := C997.keep K704 (ninS (by omega : @Ne Nat lf1 b700) (nin0))
          have C999 := C998.keep K705 (ninS (by omega : @Ne Nat lf1 b699) (nin0))
          have C1000 := C999.keep K929 nin0
          have C1001 := C1000.keep K931 (ninS (by omega : @Ne Nat lf1 b929) (nin0))
          have C1002 := C1001.keep K935 (ninS (by omega : @Ne Nat lf1 b929) (nin0))
          have C1003 := C1002.keep K937 (ninS (by omega : @Ne Nat lf1 b929) (nin0))
          have C1004 := C1003.keep K938 nin0
          have C1005 := C1004.keep K939 nin0
          have C1006 := C1005.keep K940 (ninS (by omega : @Ne Nat lf1 b938) (nin0))
          obtain ⟨cq982, kq982, q982a, q982b, q982c⟩ := isOf hZ939 e981 E940
          obtain ⟨_, _, ⟨T982, L982, k982, n982⟩, -, X982, ⟨Lc982, hQ982, l982, y982, z982⟩, st982⟩ := X981.virtualBack hx (y := (⟨"com/example/links_to_sitemap/linkstositemap/SitemapFileWriter$Entry", "field", "(Lcom/example/links_to_sitemap/linkstositemap/LinkField;)Ljava/lang/String;"⟩ : MethodName)) (z := (⟨"com/example/links_to_sitemap/linkstositemap/SitemapFileWriter$Entry", "field", "(Lcom/example/links_to_sitemap/linkstositemap/LinkField;)Ljava/lang/String;"⟩ : MethodName)) hown939 (mvT hZ939 (tw hw 62 rfl)) (mvT hZ939 (tw hw 63 rfl)) (notFace_of_selects (args := #[]) (mvT hZ939 (tw hw 65 rfl))) (mvT hZ939 (tw hw 65 rfl)) (mvT hZ939 (tw hw 64 rfl)) (by decide) (backOf (W := 0) (rmFieldA l Z a0 hw [] b938 lf1 b929 k929 [.null, (.ref b699), .null] (.ref b699) (1 : Int32) T940.heap n0 O951 F940 C956 C994 C1006 (by decide) (by decide) rfl rfl) hZ939 (tw hw 66 rfl) (tw hw 47 rfl) (by decide) (by decide)) q982a q982c (g := (mkF m 191 #[.val (.int p1), .val (.int p2), .val (.int p3), .val (.int p4), .val .null, .val (.ref b699), .val .null, .val (.int (0 : Int32)), .val (.ref b929), .val (.ref b938), .val .null, .unset, .unset] [(.ref lf1), (.ref b938)])) rfl (by rw [hml]; rfl) (Steps.refl _) (argsL := [(.ref lf1)]) (rest := []) (lenOf pd_11 rfl) rfl (by show 2 * 0 + _ ≤ _; exact Nat.le_of_eq rfl) (hb hby at_191) (fun _ _ => ⟨rfl, e981, (by decide : 7 + 0 ≤ _), (by decide : 97 + 0 ≤ _)⟩)
          dsimp only [Pt.U, Pt.locs, Pt.cells, Pt.slots] at X982 l982 y982 z982 st982 hQ982
          subst l982 y982 z982
          obtain ⟨rfl, N982q, H982⟩ := hQ982
          have N982 := Fr.app N953 N982q
          obtain ⟨T1007, X1007, e1007, st1007⟩ := getS2 X982 hx hZ939 hown939 (host := "") (Or.inl (tw hw 78 rfl)) Via.refl H982 (Sta.ext O951.2 S_2) (g := (mkF m 198 #[.val (.int p1), .val (.int p2), .val (.int p3), .val (.int p4), .val .null, .val (.ref b699), .val .null, .val (.int (0 : Int32)), .val (.ref b929), .val (.ref b938), .val .null, .val (.ref b699), .unset] [(.ref b938)])) rfl (hb hby at_198)
          have C1009 := E_2.keep K699
          have C1010 := C1009.keep K700
          have C1011 := C1010.keep K702
          have C1012 := C1011.keep K704
          have C1013 := C1012.keep K705
          have C1014 := C1013.keep K929
          have C1015 := C1014.keep K931
          have C1016 := C1015.keep K935
          have C1017 := C1016.keep K937
          have C1018 := C1017.keep K938
          have C1019 := C1018.keep K939
          have C1020 := C1019.keep K940
          have C1021 := F_2.keep K699 nin0
          have C1022 := C1021.keep K700 nin0
          have C1023 := C1022.keep K702 (ninS (by omega : @Ne Nat lf2 b700) (nin0))
          have C1024 := C1023.keep K704 (ninS (by omega : @Ne Nat lf2 b700) (nin0))
          have C1025 := C1024.keep K705 (ninS (by omega : @Ne Nat lf2 b699) (nin0))
          have C1026 := C1025.keep K929 nin0
          have C1027 := C1026.keep K931 (ninS (by omega : @Ne Nat lf2 b929) (nin0))
          have C1028 := C1027.keep K935 (ninS (by omega : @Ne Nat lf2 b929) (nin0))
          have C1029 := C1028.keep K937 (ninS (by omega : @Ne Nat lf2 b929) (nin0))
          have C1030 := C1029.keep K938 nin0
          have C1031 := C1030.keep K939 nin0
          have C1032 := C1031.keep K940 (ninS (by omega : @Ne Nat lf2 b938) (nin0))
          obtain ⟨cq1008, kq1008, q1008a, q1008b, q1008c⟩ := isOf hZ939 e1007 E940
          obtain ⟨_, _, ⟨T1008, L1008, k1008, n1008⟩, -, X1008, ⟨Lc1008, hQ1008, l1008, y1008, z1008⟩, st1008⟩ := X1007.virtualBack hx (y := (⟨"com/example/links_to_sitemap/linkstositemap/SitemapFileWriter$Entry", "field", "(Lcom/example/links_to_sitemap/linkstositemap/LinkField;)Ljava/lang/String;"⟩ : MethodName)) (z := (⟨"com/example/links_to_sitemap/linkstositemap/SitemapFileWriter$Entry", "field", "(Lcom/example/links_to_sitemap/linkstositemap/LinkField;)Ljava/lang/String;"⟩ : MethodName)) hown939 (mvT hZ939 (tw hw 62 rfl)) (mvT hZ939 (tw hw 63 rfl)) (notFace_of_selects (args := #[]) (mvT hZ939 (tw hw 65 rfl))) (mvT hZ939 (tw hw 65 rfl)) (mvT hZ939 (tw hw 64 rfl)) (by decide) (backOf (W := 0) (rmFieldA l Z a0 hw [] b938 lf2 b929 k929 [.null, (.ref b699), .null] .null (2 : Int32) T940.heap n0 O951 F940 C956 C1020 C1032 (by decide) (by decide) rfl rfl) hZ939 (tw hw 66 rfl) (tw hw 47 rfl) (by decide) (by decide)) q1008a q1008c (g := (mkF m 201 #[.val (.int p1), .val (.int p2), .val (.int p3), .val (.int p4), .val .null, .val (.ref b699), .val .null, .val (.int (0 : Int32)), .val (.ref b929), .val (.ref b938), .val .null, .val (.ref b699), .unset] [(.ref lf2), (.ref b938)])) rfl (by rw [hml]; rfl) (Steps.refl _) (argsL := [(.ref lf2)]) (rest := []) (lenOf pd_11 rfl) rfl (by show 2 * 0 + _ ≤ _; exact Nat.le_of_eq rfl) (hb hby at_201) (fun _ _ => ⟨rfl, e1007, (by decide : 7 + 0 ≤ _), (by decide : 97 + 0 ≤ _)⟩)
          dsimp only [Pt.U, Pt.locs, Pt.cells, Pt.slots] at X1008 l1008 y1008 z1008 st1008 hQ1008
          subst l1008 y1008 z1008
          obtain ⟨rfl, N1008q, H1008⟩ := hQ1008
          have N1008 := Fr.app N982 N1008q
          obtain ⟨_, _, ⟨T1033, L1033, k1033, n1033⟩, -, X1033, ⟨Lc1033, hQ1033, l1033, y1033, z1033⟩, st1033⟩ := Jvm.LawKit.callS X1008 hx (y := (⟨"com/example/links_to_sitemap/linkstositemap/EntryFieldPinLaw", "same", "(Ljava/lang/String;Ljava/lang/String;)Z"⟩ : MethodName)) hown939 (mvT hZ939 (tw hw 80 rfl)) (mvT hZ939 (tw hw 81 rfl)) (mvT hZ939 (tw hw 82 rfl)) (mvT hZ939 (tw hw 83 rfl)) (by decide) (backOf (W := 0) (rmSameN l Z a0 hw []   T940.heap n0 O951 ) hZ939 (tw hw 83 rfl) (tw hw 82 rfl) (by decide) (by decide)) (g := (mkF m 236 #[.val (.int p1), .val (.int p2), .val (.int p3), .val (.int p4), .val .null, .val (.ref b699), .val .null, .val (.int (0 : Int32)), .val (.ref b929), .val (.ref b938), .val .null, .val (.ref b699), .val .null] [.null, .null])) rfl (by rw [hml]; rfl) (argsL := [.null, .null]) (rest := []) (lenOf pd_13 rfl) rfl (by show 2 * 0 + _ ≤ _; exact Nat.le_of_eq rfl) (hb hby at_236) (fun _ _ => ⟨rfl, H1008, (by decide : 7 + 0 ≤ _), (by decide : 97 + 0 ≤ _)⟩)
          dsimp only [Pt.U, Pt.locs, Pt.cells, Pt.slots] at X1033 l1033 y1033 z1033 st1033 hQ1033
          subst l1033 y1033 z1033
          obtain ⟨rfl, N1033q, H1033⟩ := hQ1033
          have N1033 := Fr.app N1008 N1033q
          have C1035 := C934.keep K935
          have C1036 := C1035.keep K937
          have C1037 := C1036.keep K938
          have C1038 := C1037.keep K939
          have C1039 := C1038.keep K940
          obtain ⟨_, _, ⟨T1034, L1034, k1034, n1034⟩, -, X1034, ⟨Lc1034, hQ1034, l1034, y1034, z1034⟩, st1034⟩ := Jvm.LawKit.callS X1033 hx (y := (⟨"com/example/links_to_sitemap/linkstositemap/EntryFieldPinLaw", "same", "(Ljava/lang/String;Ljava/lang/String;)Z"⟩ : MethodName)) hown939 (mvT hZ939 (tw hw 80 rfl)) (mvT hZ939 (tw hw 81 rfl)) (mvT hZ939 (tw hw 82 rfl)) (mvT hZ939 (tw hw 83 rfl)) (by decide) (backOf (W := 0) (rmSameX l Z a0 hw [] b699  T940.heap n0 O951 C1039) hZ939 (tw hw 83 rfl) (tw hw 82 rfl) (by decide) (by decide)) (g := (mkF m 246 #[.val (.int p1), .val (.int p2), .val (.int p3), .val (.int p4), .val .null, .val (.ref b699), .val .null, .val (.int (0 : Int32)), .val (.ref b929), .val (.ref b938), .val .null, .val (.ref b699), .val .null] [(.ref b699), (.ref b699)])) rfl (by rw [hml]; rfl) (argsL := [(.ref b699), (.ref b699)]) (rest := []) (lenOf pd_13 rfl) rfl (by show 2 * 0 + _ ≤ _; exact Nat.le_of_eq rfl) (hb hby at_246) (fun _ _ => ⟨rfl, H1033, (by decide : 7 + 0 ≤ _), (by decide : 97 + 0 ≤ _)⟩)
          dsimp only [Pt.U, Pt.locs, Pt.cells, Pt.slots] at X1034 l1034 y1034 z1034 st1034 hQ1034
          subst l1034 y1034 z1034
          obtain ⟨rfl, N1034q, H1034⟩ := hQ1034
          have N1034 := Fr.app N1033 N1034q
          obtain ⟨_, _, ⟨T1040, L1040, k1040, n1040⟩, -, X1040, ⟨Lc1040, hQ1040, l1040, y1040, z1040⟩, st1040⟩ := Jvm.LawKit.callS X1034 hx (y := (⟨"com/example/links_to_sitemap/linkstositemap/EntryFieldPinLaw", "same", "(Ljava/lang/String;Ljava/lang/String;)Z"⟩ : MethodName)) hown939 (mvT hZ939 (tw hw 80 rfl)) (mvT hZ939 (tw hw 81 rfl)) (mvT hZ939 (tw hw 82 rfl)) (mvT hZ939 (tw hw 83 rfl)) (by decide) (backOf (W := 0) (rmSameN l Z a0 hw []   T940.heap n0 O951 ) hZ939 (tw hw 83 rfl) (tw hw 82 rfl) (by decide) (by decide)) (g := (mkF m 256 #[.val (.int p1), .val (.int p2), .val (.int p3), .val (.int p4), .val .null, .val (.ref b699), .val .null, .val (.int (0 : Int32)), .val (.ref b929), .val (.ref b938), .val .null, .val (.ref b699), .val .null] [.null, .null])) rfl (by rw [hml]; rfl) (argsL := [.null, .null]) (rest := []) (lenOf pd_13 rfl) rfl (by show 2 * 0 + _ ≤ _; exact Nat.le_of_eq rfl) (hb hby at_256) (fun _ _ => ⟨rfl, H1034, (by decide : 7 + 0 ≤ _), (by decide : 97 + 0 ≤ _)⟩)
          dsimp only [Pt.U, Pt.locs, Pt.cells, Pt.slots] at X1040 l1040 y1040 z1040 st1040 hQ1040
          subst l1040 y1040 z1040
          obtain ⟨rfl, N1040q, H1040⟩ := hQ1040
          have N1040 := Fr.app N1034 N1040q
          obtain ⟨fs, hr, hrun, hended, eR, eW, eI, eS⟩ := Stand.leaveW (s := s) (vm₁ := T939.vm) X1040 hS939 (by rw [H1040]; omega) (v := some (.int (1 : Int32))) (fun h => by rw [Bd.returns] at h; cases h)
          refine ⟨_, _, pre928 _ ?_, hrun, hended, _, _, rfl, ?_, eR, eW, eI, eS.mono (by decide) (by decide)⟩
          · skip
            show Steps p.tables e below (T705.setTop (mkF m 123 #[.val (.int p1), .val (.int p2), .val (.int p3), .val (.int p4), .val .null, .val (.ref b699), .val .null, .unset, .unset, .unset, .unset, .unset, .unset] [(.int (p1 &&& (8 : Int32)))])) _
            refine XS.ifYes X705.here hx rfl (pc0 := 123) (pc' := 130) rfl (hb hby at_123) rfl ((if0 _ _).trans (teq hc927).1) (by decide) (by decide) ?_
            show Steps p.tables e below (T705.setTop (mkF m 130 #[.val (.int p1), .val (.int p2), .val (.int p3), .val (.int p4), .val .null, .val (.ref b699), .val .null, .unset, .unset, .unset, .unset, .unset, .unset] [])) _
            refine XS.iconst X705.here hx rfl (hb hby at_130) ?_
            show Steps p.tables e below (T705.setTop (mkF m 131 #[.val (.int p1), .val (.int p2), .val (.int p3), .val (.int p4), .val .null, .val (.ref b699), .val .null, .unset, .unset, .unset, .unset, .unset, .unset] [(.int (0 : Int32))])) _
            refine XS.istore X705.here hx rfl (hb hby at_131) rfl (l' := #[.val (.int p1), .val (.int p2), .val (.int p3), .val (.int p4), .val .null, .val (.ref b699), .val .null, .val (.int (0 : Int32)), .unset, .unset, .unset, .unset, .unset]) rfl ?_
            show Steps p.tables e below (T705.setTop (mkF m 133 #[.val (.int p1), .val (.int p2), .val (.int p3), .val (.int p4), .val .null, .val (.ref b699), .val .null, .val (.int (0 : Int32)), .unset, .unset, .unset, .unset, .unset] [])) _
            refine XS.iload X705.here hx rfl (hb hby at_133) rfl ?_
            show Steps p.tables e below (T705.setTop (mkF m 135 #[.val (.int p1), .val (.int p2), .val (.int p3), .val (.int p4), .val .null, .val (.ref b699), .val .null, .val (.int (0 : Int32)), .unset, .unset, .unset, .unset, .unset] [(.int (0 : Int32))])) _
            refine XS.ifYes X705.here hx rfl (pc0 := 135) (pc' := 142) rfl (hb hby at_135) rfl ((if0 _ _).trans (teq (by decide : (0 : Int32) = (0 : Int32))).1) (by decide) (by decide) ?_
            show Steps p.tables e below (T705.setTop (mkF m 142 #[.val (.int p1), .val (.int p2), .val (.int p3), .val (.int p4), .val .null, .val (.ref b699), .val .null, .val (.int (0 : Int32)), .unset, .unset, .unset, .unset, .unset] [])) _
            refine XS.iconst X705.here hx rfl (hb hby at_142) ?_
            show Steps p.tables e below (T705.setTop (mkF m 143 #[.val (.int p1), .val (.int p2), .val (.int p3), .val (.int p4), .val .null, .val (.ref b699), .val .null, .val (.int (0 : Int32)), .unset, .unset, .unset, .unset, .unset] [(.int (3 : Int32))])) _
            refine st929 _ ?_
            show Steps p.tables e below (T929.setTop (mkF m 146 #[.val (.int p1), .val (.int p2), .val (.int p3), .val (.int p4), .val .null, .val (.ref b699), .val .null, .val (.int (0 : Int32)), .unset, .unset, .unset, .unset, .unset] [(.ref b929)])) _
            refine XS.dup X929.here hx rfl (hb hby at_146) rfl rfl ?_
            show Steps p.tables e below (T929.setTop (mkF m 147 #[.val (.int p1), .val (.int p2), .val (.int p3), .val (.int p4), .val .null, .val (.ref b699), .val .null, .val (.int (0 : Int32)), .unset, .unset, .unset, .unset, .unset] [(.ref b929), (.ref b929)])) _
            refine XS.iconst X929.here hx rfl (hb hby at_147) ?_
            show Steps p.tables e below (T929.setTop (mkF m 148 #[.val (.int p1), .val (.int p2), .val (.int p3), .val (.int p4), .val .null, .val (.ref b699), .val .null, .val (.int (0 : Int32)), .unset, .unset, .unset, .unset, .unset] [(.int (0 : Int32)), (.ref b929), (.ref b929)])) _
            refine XS.aload X929.here hx rfl (hb hby at_148) rfl rfl ?_
            show Steps p.tables e below (T929.setTop (mkF m 150 #[.val (.int p1), .val (.int p2), .val (.int p3), .val (.int p4), .val .null, .val (.ref b699), .val .null, .val (.int (0 : Int32)), .unset, .unset, .unset, .unset, .unset] [.null, (.int (0 : Int32)), (.ref b929), (.ref b929)])) _
            refine st931 _ ?_
            show Steps p.tables e below (T931.setTop (mkF m 151 #[.val (.int p1), .val (.int p2), .val (.int p3), .val (.int p4), .val .null, .val (.ref b699), .val .null, .val (.int (0 : Int32)), .unset, .unset, .unset, .unset, .unset] [(.ref b929)])) _
            refine XS.dup X931.here hx rfl (hb hby at_151) rfl rfl ?_
            show Steps p.tables e below (T931.setTop (mkF m 152 #[.val (.int p1), .val (.int p2), .val (.int p3), .val (.int p4), .val .null, .val (.ref b699), .val .null, .val (.int (0 : Int32)), .unset, .unset, .unset, .unset, .unset] [(.ref b929), (.ref b929)])) _
            refine XS.iconst X931.here hx rfl (hb hby at_152) ?_
            show Steps p.tables e below (T931.setTop (mkF m 153 #[.val (.int p1), .val (.int p2), .val (.int p3), .val (.int p4), .val .null, .val (.ref b699), .val .null, .val (.int (0 : Int32)), .unset, .unset, .unset, .unset, .unset] [(.int (1 : Int32)), (.ref b929), (.ref b929)])) _
            refine XS.aload X931.here hx rfl (hb hby at_153) rfl rfl ?_
            show Steps p.tables e below (T931.setTop (mkF m 155 #[.val (.int p1), .val (.int p2), .val (.int p3), .val (.int p4), .val .null, .val (.ref b699), .val .null, .val (.int (0 : Int32)), .unset, .unset, .unset, .unset, .unset] [(.ref b699), (.int (1 : Int32)), (.ref b929), (.ref b929)])) _
            refine st935 _ ?_
            show Steps p.tables e below (T935.setTop (mkF m 156 #[.val (.int p1), .val (.int p2), .val (.int p3), .val (.int p4), .val .null, .val (.ref b699), .val .null, .val (.int (0 : Int32)), .unset, .unset, .unset, .unset, .unset] [(.ref b929)])) _
            refine XS.dup X935.here hx rfl (hb hby at_156) rfl rfl ?_
            show Steps p.tables e below (T935.setTop (mkF m 157 #[.val (.int p1), .val (.int p2), .val (.int p3), .val (.int p4), .val .null, .val (.ref b699), .val .null, .val (.int (0 : Int32)), .unset, .unset, .unset, .unset, .unset] [(.ref b929), (.ref b929)])) _
            refine XS.iconst X935.here hx rfl (hb hby at_157) ?_
            show Steps p.tables e below (T935.setTop (mkF m 158 #[.val (.int p1), .val (.int p2), .val (.int p3), .val (.int p4), .val .null, .val (.ref b699), .val .null, .val (.int (0 : Int32)), .unset, .unset, .unset, .unset, .unset] [(.int (2 : Int32)), (.ref b929), (.ref b929)])) _
            refine XS.aload X935.here hx rfl (hb hby at_158) rfl rfl ?_
            show Steps p.tables e below (T935.setTop (mkF m 160 #[.val (.int p1), .val (.int p2), .val (.int p3), .val (.int p4), .val .null, .val (.ref b699), .val .null, .val (.int (0 : Int32)), .unset, .unset, .unset, .unset, .unset] [.null, (.int (2 : Int32)), (.ref b929), (.ref b929)])) _
            refine st937 _ ?_
            show Steps p.tables e below (T937.setTop (mkF m 161 #[.val (.int p1), .val (.int p2), .val (.int p3), .val (.int p4), .val .null, .val (.ref b699), .val .null, .val (.int (0 : Int32)), .unset, .unset, .unset, .unset, .unset] [(.ref b929)])) _
            refine XS.astore X937.here hx rfl (hb hby at_161) rfl rfl (l' := #[.val (.int p1), .val (.int p2), .val (.int p3), .val (.int p4), .val .null, .val (.ref b699), .val .null, .val (.int (0 : Int32)), .val (.ref b929), .unset, .unset, .unset, .unset]) rfl ?_
            show Steps p.tables e below (T937.setTop (mkF m 163 #[.val (.int p1), .val (.int p2), .val (.int p3), .val (.int p4), .val .null, .val (.ref b699), .val .null, .val (.int (0 : Int32)), .val (.ref b929), .unset, .unset, .unset, .unset] [])) _
            refine st938 _ ?_
            show Steps p.tables e below (T938.setTop (mkF m 166 #[.val (.int p1), .val (.int p2), .val (.int p3), .val (.int p4), .val .null, .val (.ref b699), .val .null, .val (.int (0 : Int32)), .val (.ref b929), .unset, .unset, .unset, .unset] [(.ref b938)])) _
            refine XS.dup X938.here hx rfl (hb hby at_166) rfl rfl ?_
            show Steps p.tables e below (T938.setTop (mkF m 167 #[.val (.int p1), .val (.int p2), .val (.int p3), .val (.int p4), .val .null, .val (.ref b699), .val .null, .val (.int (0 : Int32)), .val (.ref b929), .unset, .unset, .unset, .unset] [(.ref b938), (.ref b938)])) _
            refine st939 _ ?_
            show Steps p.tables e below (T939.setTop (mkF m 169 #[.val (.int p1), .val (.int p2), .val (.int p3), .val (.int p4), .val .null, .val (.ref b699), .val .null, .val (.int (0 : Int32)), .val (.ref b929), .unset, .unset, .unset, .unset] [(.ref b939), (.ref b938), (.ref b938)])) _
            refine XS.aload X939.here hx rfl (hb hby at_169) rfl rfl ?_
            show Steps p.tables e below (T939.setTop (mkF m 171 #[.val (.int p1), .val (.int p2), .val (.int p3), .val (.int p4), .val .null, .val (.ref b699), .val .null, .val (.int (0 : Int32)), .val (.ref b929), .unset, .unset, .unset, .unset] [(.ref b929), (.ref b939), (.ref b938), (.ref b938)])) _
            refine st940.trans ?_
            show Steps p.tables e below (T940.setTop (mkF m 174 #[.val (.int p1), .val (.int p2), .val (.int p3), .val (.int p4), .val .null, .val (.ref b699), .val .null, .val (.int (0 : Int32)), .val (.ref b929), .unset, .unset, .unset, .unset] [(.ref b938)])) _
            refine XS.astore X940.here hx rfl (hb hby at_174) rfl rfl (l' := #[.val (.int p1), .val (.int p2), .val (.int p3), .val (.int p4), .val .null, .val (.ref b699), .val .null, .val (.int (0 : Int32)), .val (.ref b929), .val (.ref b938), .unset, .unset, .unset]) rfl ?_
            show Steps p.tables e below (T940.setTop (mkF m 176 #[.val (.int p1), .val (.int p2), .val (.int p3), .val (.int p4), .val .null, .val (.ref b699), .val .null, .val (.int (0 : Int32)), .val (.ref b929), .val (.ref b938), .unset, .unset, .unset] [])) _
            refine XS.aload X940.here hx rfl (hb hby at_176) rfl rfl ?_
            show Steps p.tables e below (T940.setTop (mkF m 178 #[.val (.int p1), .val (.int p2), .val (.int p3), .val (.int p4), .val .null, .val (.ref b699), .val .null, .val (.int (0 : Int32)), .val (.ref b929), .val (.ref b938), .unset, .unset, .unset] [(.ref b938)])) _
            refine st952 _ ?_
            show Steps p.tables e below (T952.setTop (mkF m 181 #[.val (.int p1), .val (.int p2), .val (.int p3), .val (.int p4), .val .null, .val (.ref b699), .val .null, .val (.int (0 : Int32)), .val (.ref b929), .val (.ref b938), .unset, .unset, .unset] [(.ref lf0), (.ref b938)])) _
            refine st953.trans ?_
            show Steps p.tables e below (T953.setTop (mkF m 184 #[.val (.int p1), .val (.int p2), .val (.int p3), .val (.int p4), .val .null, .val (.ref b699), .val .null, .val (.int (0 : Int32)), .val (.ref b929), .val (.ref b938), .unset, .unset, .unset] [.null])) _
            refine XS.astore X953.here hx rfl (hb hby at_184) rfl rfl (l' := #[.val (.int p1), .val (.int p2), .val (.int p3), .val (.int p4), .val .null, .val (.ref b699), .val .null, .val (.int (0 : Int32)), .val (.ref b929), .val (.ref b938), .val .null, .unset, .unset]) rfl ?_
            show Steps p.tables e below (T953.setTop (mkF m 186 #[.val (.int p1), .val (.int p2), .val (.int p3), .val (.int p4), .val .null, .val (.ref b699), .val .null, .val (.int (0 : Int32)), .val (.ref b929), .val (.ref b938), .val .null, .unset, .unset] [])) _
            refine XS.aload X953.here hx rfl (hb hby at_186) rfl rfl ?_
            show Steps p.tables e below (T953.setTop (mkF m 188 #[.val (.int p1), .val (.int p2), .val (.int p3), .val (.int p4), .val .null, .val (.ref b699), .val .null, .val (.int (0 : Int32)), .val (.ref b929), .val (.ref b938), .val .null, .unset, .unset] [(.ref b938)])) _
            refine st981 _ ?_
            show Steps p.tables e below (T981.setTop (mkF m 191 #[.val (.int p1), .val (.int p2), .val (.int p3), .val (.int p4), .val .null, .val (.ref b699), .val .null, .val (.int (0 : Int32)), .val (.ref b929), .val (.ref b938), .val .null, .unset, .unset] [(.ref lf1), (.ref b938)])) _
            refine st982.trans ?_
            show Steps p.tables e below (T982.setTop (mkF m 194 #[.val (.int p1), .val (.int p2), .val (.int p3), .val (.int p4), .val .null, .val (.ref b699), .val .null, .val (.int (0 : Int32)), .val (.ref b929), .val (.ref b938), .val .null, .unset, .unset] [(.ref b699)])) _
            refine XS.astore X982.here hx rfl (hb hby at_194) rfl rfl (l' := #[.val (.int p1), .val (.int p2), .val (.int p3), .val (.int p4), .val .null, .val (.ref b699), .val .null, .val (.int (0 : Int32)), .val (.ref b929), .val (.ref b938), .val .null, .val (.ref b699), .unset]) rfl ?_
            show Steps p.tables e below (T982.setTop (mkF m 196 #[.val (.int p1), .val (.int p2), .val (.int p3), .val (.int p4), .val .null, .val (.ref b699), .val .null, .val (.int (0 : Int32)), .val (.ref b929), .val (.ref b938), .val .null, .val (.ref b699), .unset] [])) _
            refine XS.aload X982.here hx rfl (hb hby at_196) rfl rfl ?_
            show Steps p.tables e below (T982.setTop (mkF m 198 #[.val (.int p1), .val (.int p2), .val (.int p3), .val (.int p4), .val .null, .val (.ref b699), .val .null, .val (.int (0 : Int32)), .val (.ref b929), .val (.ref b938), .val .null, .val (.ref b699), .unset] [(.ref b938)])) _
            refine st1007 _ ?_
            show Steps p.tables e below (T1007.setTop (mkF m 201 #[.val (.int p1), .val (.int p2), .val (.int p3), .val (.int p4), .val .null, .val (.ref b699), .val .null, .val (.int (0 : Int32)), .val (.ref b929), .val (.ref b938), .val .null, .val (.ref b699), .unset] [(.ref lf2), (.ref b938)])) _
            refine st1008.trans ?_
            show Steps p.tables e below (T1008.setTop (mkF m 204 #[.val (.int p1), .val (.int p2), .val (.int p3), .val (.int p4), .val .null, .val (.ref b699), .val .null, .val (.int (0 : Int32)), .val (.ref b929), .val (.ref b938), .val .null, .val (.ref b699), .unset] [.null])) _
            refine XS.astore X1008.here hx rfl (hb hby at_204) rfl rfl (l' := #[.val (.int p1), .val (.int p2), .val (.int p3), .val (.int p4), .val .null, .val (.ref b699), .val .null, .val (.int (0 : Int32)), .val (.ref b929), .val (.ref b938), .val .null, .val (.ref b699), .val .null]) rfl ?_
            show Steps p.tables e below (T1008.setTop (mkF m 206 #[.val (.int p1), .val (.int p2), .val (.int p3), .val (.int p4), .val .null, .val (.ref b699), .val .null, .val (.int (0 : Int32)), .val (.ref b929), .val (.ref b938), .val .null, .val (.ref b699), .val .null] [])) _
            refine XS.iload X1008.here hx rfl (hb hby at_206) rfl ?_
            show Steps p.tables e below (T1008.setTop (mkF m 208 #[.val (.int p1), .val (.int p2), .val (.int p3), .val (.int p4), .val .null, .val (.ref b699), .val .null, .val (.int (0 : Int32)), .val (.ref b929), .val (.ref b938), .val .null, .val (.ref b699), .val .null] [(.int (0 : Int32))])) _
            refine XS.ifYes X1008.here hx rfl (pc0 := 208) (pc' := 232) rfl (hb hby at_208) rfl ((if0 _ _).trans (teq (by decide : (0 : Int32) = (0 : Int32))).1) (by decide) (by decide) ?_
            show Steps p.tables e below (T1008.setTop (mkF m 232 #[.val (.int p1), .val (.int p2), .val (.int p3), .val (.int p4), .val .null, .val (.ref b699), .val .null, .val (.int (0 : Int32)), .val (.ref b929), .val (.ref b938), .val .null, .val (.ref b699), .val .null] [])) _
            refine XS.aload X1008.here hx rfl (hb hby at_232) rfl rfl ?_
            show Steps p.tables e below (T1008.setTop (mkF m 234 #[.val (.int p1), .val (.int p2), .val (.int p3), .val (.int p4), .val .null, .val (.ref b699), .val .null, .val (.int (0 : Int32)), .val (.ref b929), .val (.ref b938), .val .null, .val (.ref b699), .val .null] [.null])) _
            refine XS.aload X1008.here hx rfl (hb hby at_234) rfl rfl ?_
            show Steps p.tables e below (T1008.setTop (mkF m 236 #[.val (.int p1), .val (.int p2), .val (.int p3), .val (.int p4), .val .null, .val (.ref b699), .val .null, .val (.int (0 : Int32)), .val (.ref b929), .val (.ref b938), .val .null, .val (.ref b699), .val .null] [.null, .null])) _
            refine st1033 _ ?_
            show Steps p.tables e below (T1033.setTop (mkF m 239 #[.val (.int p1), .val (.int p2), .val (.int p3), .val (.int p4), .val .null, .val (.ref b699), .val .null, .val (.int (0 : Int32)), .val (.ref b929), .val (.ref b938), .val .null, .val (.ref b699), .val .null] [(.int (1 : Int32))])) _
            refine XS.ifNo X1033.here hx rfl (hb hby at_239) rfl ((if0 _ _).trans (feq (by decide : ¬ ((1 : Int32) = (0 : Int32)))).1) ?_
            show Steps p.tables e below (T1033.setTop (mkF m 242 #[.val (.int p1), .val (.int p2), .val (.int p3), .val (.int p4), .val .null, .val (.ref b699), .val .null, .val (.int (0 : Int32)), .val (.ref b929), .val (.ref b938), .val .null, .val (.ref b699), .val .null] [])) _
            refine XS.aload X1033.here hx rfl (hb hby at_242) rfl rfl ?_
            show Steps p.tables e below (T1033.setTop (mkF m 244 #[.val (.int p1), .val (.int p2), .val (.int p3), .val (.int p4), .val .null, .val (.ref b699), .val .null, .val (.int (0 : Int32)), .val (.ref b929), .val (.ref b938), .val .null, .val (.ref b699), .val .null] [(.ref b699)])) _
            refine XS.aload X1033.here hx rfl (hb hby at_244) rfl rfl ?_
            show Steps p.tables e below (T1033.setTop (mkF m 246 #[.val (.int p1), .val (.int p2), .val (.int p3), .val (.int p4), .val .null, .val (.ref b699), .val .null, .val (.int (0 : Int32)), .val (.ref b929), .val (.ref b938), .val .null, .val (.ref b699), .val .null] [(.ref b699), (.ref b699)])) _
            refine st1034 _ ?_
            show Steps p.tables e below (T1034.setTop (mkF m 249 #[.val (.int p1), .val (.int p2), .val (.int p3), .val (.int p4), .val .null, .val (.ref b699), .val .null, .val (.int (0 : Int32)), .val (.ref b929), .val (.ref b938), .val .null, .val (.ref b699), .val .null] [(.int (1 : Int32))])) _
            refine XS.ifNo X1034.here hx rfl (hb hby at_249) rfl ((if0 _ _).trans (feq (by decide : ¬ ((1 : Int32) = (0 : Int32)))).1) ?_
            show Steps p.tables e below (T1034.setTop (mkF m 252 #[.val (.int p1), .val (.int p2), .val (.int p3), .val (.int p4), .val .null, .val (.ref b699), .val .null, .val (.int (0 : Int32)), .val (.ref b929), .val (.ref b938), .val .null, .val (.ref b699), .val .null] [])) _
            refine XS.aload X1034.here hx rfl (hb hby at_252) rfl rfl ?_
            show Steps p.tables e below (T1034.setTop (mkF m 254 #[.val (.int p1), .val (.int p2), .val (.int p3), .val (.int p4), .val .null, .val (.ref b699), .val .null, .val (.int (0 : Int32)), .val (.ref b929), .val (.ref b938), .val .null, .val (.ref b699), .val .null] [.null])) _
            refine XS.aload X1034.here hx rfl (hb hby at_254) rfl rfl ?_
            show Steps p.tables e below (T1034.setTop (mkF m 256 #[.val (.int p1), .val (.int p2), .val (.int p3), .val (.int p4), .val .null, .val (.ref b699), .val .null, .val (.int (0 : Int32)), .val (.ref b929), .val (.ref b938), .val .null, .val (.ref b699), .val .null] [.null, .null])) _
            refine st1040 _ ?_
            show Steps p.tables e below (T1040.setTop (mkF m 259 #[.val (.int p1), .val (.int p2), .val (.int p3), .val (.int p4), .val .null, .val (.ref b699), .val .null, .val (.int (0 : Int32)), .val (.ref b929), .val (.ref b938), .val .null, .val (.ref b699), .val .null] [(.int (1 : Int32))])) _
            refine XS.ifNo X1040.here hx rfl (hb hby at_259) rfl ((if0 _ _).trans (feq (by decide : ¬ ((1 : Int32) = (0 : Int32)))).1) ?_
            show Steps p.tables e below (T1040.setTop (mkF m 262 #[.val (.int p1), .val (.int p2), .val (.int p3), .val (.int p4), .val .null, .val (.ref b699), .val .null, .val (.int (0 : Int32)), .val (.ref b929), .val (.ref b938), .val .null, .val (.ref b699), .val .null] [])) _
            refine XS.iconst X1040.here hx rfl (hb hby at_262) ?_
            show Steps p.tables e below (T1040.setTop (mkF m 263 #[.val (.int p1), .val (.int p2), .val (.int p3), .val (.int p4), .val .null, .val (.ref b699), .val .null, .val (.int (0 : Int32)), .val (.ref b929), .val (.ref b938), .val .null, .val (.ref b699), .val .null] [(.int (1 : Int32))])) _
            refine XS.goto X1040.here hx rfl (pc0 := 263) (pc' := 267) rfl (hb hby at_263) (by decide) (by decide) ?_
            show Steps p.tables e below (T1040.setTop (mkF m 267 #[.val (.int p1), .val (.int p2), .val (.int p3), .val (.int p4), .val .null, .val (.ref b699), .val .null, .val (.int (0 : Int32)), .val (.ref b929), .val (.ref b938), .val .null, .val (.ref b699), .val .null] [(.int (1 : Int32))])) _
            exact retN X1040 hx (t := .boolean) Bd.returns (by simp) (hb hby at_267) hr
          · show Q_rm0 Z p1 p2 p3 p4 cs lf0 lf1 lf2 h0 n0 _ T1040.heap _
            rw [H1040]
            exact ⟨rfl, N1040⟩
        · skip
          obtain ⟨T1041, h1041, X1041, e1041, E1041, A1041, D1041, -, st1041⟩ := newO X705 hx hZ hown (tw hw 45 rfl) (tw hw 46 rfl) (tw hw 47 rfl) rfl (g := (mkF m 163 #[.val (.int p1), .val (.int p2), .val (.int p3), .val (.int p4), .val .null, .val (.ref b699), .val .null, .val (.int (1 : Int32)), .val .null, .unset, .unset, .unset, .unset] [])) rfl (hb hby at_163) (by decide) (by decide)
          obtain ⟨b1041, g1041⟩ : ∃ z, z = T705.heap.size := ⟨_, rfl⟩
          rw [← g1041] at A1041 D1041 st1041
          have lt1041 : @LT.lt Nat _ b1041 h1041.size := A1041.lt
          have K1041 : Keep T705.heap h1041 [] := (Keep.refl _ _).ext E1041
          have sz6_K1041 := K1041.1
          have F1041_loc : Fld Z h1041 b1041 "com/example/links_to_sitemap/linkstositemap/SitemapFileWriter$Entry" "loc" "Ljava/lang/String;" .null := D1041 (Or.inr (tw hw 56 rfl)) (ty := (.object "java/lang/String")) (by decide)
          have F1041_fields : Fld Z h1041 b1041 "com/example/links_to_sitemap/linkstositemap/SitemapFileWriter$Entry" "fields" "[Ljava/lang/String;" .null := D1041 (Or.inr (tw hw 58 rfl)) (ty := (.array (.object "java/lang/String"))) (by decide)
          obtain ⟨b1042, T1042, h1042, k1042, X1042, e1042, E1042, hS1042, hk1042, hZ1042, hown1042, st1042⟩ := ldcS (s := s) (vm0 := s.vm) X1041 hx hZ hown (tw hw 48 rfl) wStr e1041 hS0 (by omega) (g := (mkF m 167 #[.val (.int p1), .val (.int p2), .val (.int p3), .val (.int p4), .val .null, .val (.ref b699), .val .null, .val (.int (1 : Int32)), .val .null, .unset, .unset, .unset, .unset] [(.ref b1041), (.ref b1041)])) rfl (hb hby at_167) (n := 80) (by decide) (by decide) (by decide) (by decide)
          have K1042 : Keep h1041 h1042 [] := (Keep.refl _ _).ext E1042
          have sz7_K1042 := K1042.1
          have C1044 := A1041.keep K1042
          have C1045 := F1041_loc.keep K1042 nin0
          have C1046 := F1041_fields.keep K1042 nin0
          have O1047 : Old Z n0 T705.heap := O718.keep K705 (allS (by omega) (all0))
          have O1048 : Old Z n0 h1041 := O1047.keep K1041 all0
          have O1049 : Old Z n0 h1042 := O1048.keep K1042 all0
          obtain ⟨_, _, ⟨T1043, L1043, k1043, n1043⟩, -, X1043, ⟨Lc1043, hQ1043, l1043, y1043, z1043⟩, st1043⟩ := X1042.specialBack hx (y := (⟨"com/example/links_to_sitemap/linkstositemap/SitemapFileWriter$Entry", "<init>", "(Ljava/lang/String;[Ljava/lang/String;)V"⟩ : MethodName)) rfl hown1042 (mvT hZ1042 (tw hw 51 rfl)) (mvT hZ1042 (tw hw 52 rfl)) (mvT hZ1042 (tw hw 53 rfl)) (by decide) (backOf (W := 1) (rmEntryN l Z a0 hw [] b1041 b1042  h1042 n0 O1049 (by omega : @LE.le Nat _ n0 b1041) C1044 C1045 C1046) hZ1042 (tw hw 53 rfl) (tw hw 47 rfl) (by decide) (by decide)) (g := (mkF m 171 #[.val (.int p1), .val (.int p2), .val (.int p3), .val (.int p4), .val .null, .val (.ref b699), .val .null, .val (.int (1 : Int32)), .val .null, .unset, .unset, .unset, .unset] [.null, (.ref b1042), (.ref b1041), (.ref b1041)])) rfl (by rw [hml]; rfl) (Steps.refl _) (a := b1041) (argsL := [(.ref b1042), .null]) (rest := [(.ref b1041)]) (lenOf pd_10 rfl) rfl (by show 2 * 0 + _ ≤ _; exact Nat.le_of_eq rfl) (hb hby at_171) (fun _ _ => ⟨rfl, e1042, (by decide : 6 + 0 ≤ _), (by decide : 94 + 0 ≤ _)⟩)
          dsimp only [Pt.U, Pt.locs, Pt.cells, Pt.slots] at X1043 l1043 y1043 z1043 st1043 hQ1043
          subst l1043 y1043 z1043
          obtain ⟨rfl, N1043q, K1043, E1043, F1043⟩ := hQ1043
          have sz8_K1043 := K1043.1
          have N1043 := Fr.app N705 N1043q
          have O1050 : Old Z n0 T1043.heap := O1049.keep K1043 (allS (by omega) (all0))
          obtain ⟨T1051, X1051, e1051, st1051⟩ := getS2 X1043 hx hZ1042 hown1042 (host := "") (Or.inl (tw hw 59 rfl)) Via.refl rfl (Sta.ext O1050.2 S_0) (g := (mkF m 178 #[.val (.int p1), .val (.int p2), .val (.int p3), .val (.int p4), .val .null, .val (.ref b699), .val .null, .val (.int (1 : Int32)), .val .null, .val (.ref b1041), .unset, .unset, .unset] [(.ref b1041)])) rfl (hb hby at_178)
          obtain ⟨cq1052, kq1052, q1052a, q1052b, q1052c⟩ := isOf hZ1042 e1051 E1043
          obtain ⟨_, _, ⟨T1052, L1052, k1052, n1052⟩, -, X1052, ⟨Lc1052, hQ1052, l1052, y1052, z1052⟩, st1052⟩ := X1051.virtualBack hx (y := (⟨"com/example/links_to_sitemap/linkstositemap/SitemapFileWriter$Entry", "field", "(Lcom/example/links_to_sitemap/linkstositemap/LinkField;)Ljava/lang/String;"⟩ : MethodName)) (z := (⟨"com/example/links_to_sitemap/linkstositemap/SitemapFileWriter$Entry", "field", "(Lcom/example/links_to_sitemap/linkstositemap/LinkField;)Ljava/lang/String;"⟩ : MethodName)) hown1042 (mvT hZ1042 (tw hw 62 rfl)) (mvT hZ1042 (tw hw 63 rfl)) (notFace_of_selects (args := #[]) (mvT hZ1042 (tw hw 65 rfl))) (mvT hZ1042 (tw hw 65 rfl)) (mvT hZ1042 (tw hw 64 rfl)) (by decide) (backOf (W := 0) (rmFieldN l Z a0 hw [] b1041 lf0  T1043.heap n0 O1050 F1043) hZ1042 (tw hw 66 rfl) (tw hw 47 rfl) (by decide) (by decide)) q1052a q1052c (g := (mkF m 181 #[.val (.int p1), .val (.int p2), .val (.int p3), .val (.int p4), .val .null, .val (.ref b699), .val .null, .val (.int (1 : Int32)), .val .null, .val (.ref b1041), .unset, .unset, .unset] [(.ref lf0), (.ref b1041)])) rfl (by rw [hml]; rfl) (Steps.refl _) (argsL := [(.ref lf0)]) (rest := []) (lenOf pd_11 rfl) rfl (by show 2 * 0 + _ ≤ _; exact Nat.le_of_eq rfl) (hb hby at_181) (fun _ _ => ⟨rfl, e1051, (by decide : 6 + 0 ≤ _), (by decide : 94 + 0 ≤ _)⟩)
          dsimp only [Pt.U, Pt.locs, Pt.cells, Pt.slots] at X1052 l1052 y1052 z1052 st1052 hQ1052
          subst l1052 y1052 z1052
          obtain ⟨rfl, N1052q, H1052⟩ := hQ1052
          have N1052 := Fr.app N1043 N1052q
          obtain ⟨T1053, X1053, e1053, st1053⟩ := getS2 X1052 hx hZ1042 hown1042 (host := "") (Or.inl (tw hw 76 rfl)) Via.refl H1052 (Sta.ext O1050.2 S_1) (g := (mkF m 188 #[.val (.int p1), .val (.int p2), .val (.int p3), .val (.int p4), .val .null, .val (.ref b699), .val .null, .val (.int (1 : Int32)), .val .null, .val (.ref b1041), .val .null, .unset, .unset] [(.ref b1041)])) rfl (hb hby at_188)
          obtain ⟨cq1054, kq1054, q1054a, q1054b, q1054c⟩ := isOf hZ1042 e1053 E1043
          obtain ⟨_, _, ⟨T1054, L1054, k1054, n1054⟩, -, X1054, ⟨Lc1054, hQ1054, l1054, y1054, z1054⟩, st1054⟩ := X1053.virtualBack hx (y := (⟨"com/example/links_to_sitemap/linkstositemap/SitemapFileWriter$Entry", "field", "(Lcom/example/links_to_sitemap/linkstositemap/LinkField;)Ljava/lang/String;"⟩ : MethodName)) (z := (⟨"com/example/links_to_sitemap/linkstositemap/SitemapFileWriter$Entry", "field", "(Lcom/example/links_to_sitemap/linkstositemap/LinkField;)Ljava/lang/String;"⟩ : MethodName)) hown1042 (mvT hZ1042 (tw hw 62 rfl)) (mvT hZ1042 (tw hw 63 rfl)) (notFace_of_selects (args := #[]) (mvT hZ1042 (tw hw 65 rfl))) (mvT hZ1042 (tw hw 65 rfl)) (mvT hZ1042 (tw hw 64 rfl)) (by decide) (backOf (W := 0) (rmFieldN l Z a0 hw [] b1041 lf1  T1043.heap n0 O1050 F1043) hZ1042 (tw hw 66 rfl) (tw hw 47 rfl) (by decide) (by decide)) q1054a q1054c (g := (mkF m 191 #[.val (.int p1), .val (.int p2), .val (.int p3), .val (.int p4), .val .null, .val (.ref b699), .val .null, .val (.int (1 : Int32)), .val .null, .val (.ref b1041), .val .null, .unset, .unset] [(.ref lf1), (.ref b1041)])) rfl (by rw [hml]; rfl) (Steps.refl _) (argsL := [(.ref lf1)]) (rest := []) (lenOf pd_11 rfl) rfl (by show 2 * 0 + _ ≤ _; exact Nat.le_of_eq rfl) (hb hby at_191) (fun _ _ => ⟨rfl, e1053, (by decide : 6 + 0 ≤ _), (by decide : 94 + 0 ≤ _)⟩)
          dsimp only [Pt.U, Pt.locs, Pt.cells, Pt.slots] at X1054 l1054 y1054 z1054 st1054 hQ1054
          subst l1054 y1054 z1054
          obtain ⟨rfl, N1054q, H1054⟩ := hQ1054
          have N1054 := Fr.app N1052 N1054q
          obtain ⟨T1055, X1055, e1055, st1055⟩ := getS2 X1054 hx hZ1042 hown1042 (host := "") (Or.inl (tw hw 78 rfl)) Via.refl H1054 (Sta.ext O1050.2 S_2) (g := (mkF m 198 #[.val (.int p1), .val (.int p2), .val (.int p3), .val (.int p4), .val .null, .val (.ref b699), .val .null, .val (.int (1 : Int32)), .val .null, .val (.ref b1041), .val .null, .val .null, .unset] [(.ref b1041)])) rfl (hb hby at_198)
          obtain ⟨cq1056, kq1056, q1056a, q1056b, q1056c⟩ := isOf hZ1042 e1055 E1043
          obtain ⟨_, _, ⟨T1056, L1056, k1056, n1056⟩, -, X1056, ⟨Lc1056, hQ1056, l1056, y1056, z1056⟩, st1056⟩ := X1055.virtualBack hx (y := (⟨"com/example/links_to_sitemap/linkstositemap/SitemapFileWriter$Entry", "field", "(Lcom/example/links_to_sitemap/linkstositemap/LinkField;)Ljava/lang/String;"⟩ : MethodName)) (z := (⟨"com/example/links_to_sitemap/linkstositemap/SitemapFileWriter$Entry", "field", "(Lcom/example/links_to_sitemap/linkstositemap/LinkField;)Ljava/lang/String;"⟩ : MethodName)) hown1042 (mvT hZ1042 (tw hw 62 rfl)) (mvT hZ1042 (tw hw 63 rfl)) (notFace_of_selects (args := #[]) (mvT hZ1042 (tw hw 65 rfl))) (mvT hZ1042 (tw hw 65 rfl)) (mvT hZ1042 (tw hw 64 rfl)) (by decide) (backOf (W := 0) (rmFieldN l Z a0 hw [] b1041 lf2  T1043.heap n0 O1050 F1043) hZ1042 (tw hw 66 rfl) (tw hw 47 rfl) (by decide) (by decide)) q1056a q1056c (g := (mkF m 201 #[.val (.int p1), .val (.int p2), .val (.int p3), .val (.int p4), .val .null, .val (.ref b699), .val .null, .val (.int (1 : Int32)), .val .null, .val (.ref b1041), .val .null, .val .null, .unset] [(.ref lf2), (.ref b1041)])) rfl (by rw [hml]; rfl) (Steps.refl _) (argsL := [(.ref lf2)]) (rest := []) (lenOf pd_11 rfl) rfl (by show 2 * 0 + _ ≤ _; exact Nat.le_of_eq rfl) (hb hby at_201) (fun _ _ => ⟨rfl, e1055, (by decide : 6 + 0 ≤ _), (by decide : 94 + 0 ≤ _)⟩)
          dsimp only [Pt.U, Pt.locs, Pt.cells, Pt.slots] at X1056 l1056 y1056 z1056 st1056 hQ1056
          subst l1056 y1056 z1056
          obtain ⟨rfl, N1056q, H1056⟩ := hQ1056
          have N1056 := Fr.app N1054 N1056q
          obtain ⟨fs, hr, hrun, hended, eR, eW, eI, eS⟩ := Stand.leaveW (s := s) (vm₁ := T1042.vm) X1056 hS1042 (by rw [H1056]; omega) (v := some (.int (1 : Int32))) (fun h => by rw [Bd.returns] at h; cases h)
          refine ⟨_, _, pre928 _ ?_, hrun, hended, _, _, rfl, ?_, eR, eW, eI, eS.mono (by decide) (by decide)⟩
          · skip
            show Steps p.tables e below (T705.setTop (mkF m 123 #[.val (.int p1), .val (.int p2), .val (.int p3), .val (.int p4), .val .null, .val (.ref b699), .val .null, .unset, .unset, .unset, .unset, .unset, .unset] [(.int (p1 &&& (8 : Int32)))])) _
            refine XS.ifNo X705.here hx rfl (hb hby at_123) rfl ((if0 _ _).trans (feq hc927).1) ?_
            show Steps p.tables e below (T705.setTop (mkF m 126 #[.val (.int p1), .val (.int p2), .val (.int p3), .val (.int p4), .val .null, .val (.ref b699), .val .null, .unset, .unset, .unset, .unset, .unset, .unset] [])) _
            refine XS.iconst X705.here hx rfl (hb hby at_126) ?_
            show Steps p.tables e below (T705.setTop (mkF m 127 #[.val (.int p1), .val (.int p2), .val (.int p3), .val (.int p4), .val .null, .val (.ref b699), .val .null, .unset, .unset, .unset, .unset, .unset, .unset] [(.int (1 : Int32))])) _
            refine XS.goto X705.here hx rfl (pc0 := 127) (pc' := 131) rfl (hb hby at_127) (by decide) (by decide) ?_
            show Steps p.tables e below (T705.setTop (mkF m 131 #[.val (.int p1), .val (.int p2), .val (.int p3), .val (.int p4), .val .null, .val (.ref b699), .val .null, .unset, .unset, .unset, .unset, .unset, .unset] [(.int (1 : Int32))])) _
            refine XS.istore X705.here hx rfl (hb hby at_131) rfl (l' := #[.val (.int p1), .val (.int p2), .val (.int p3), .val (.int p4), .val .null, .val (.ref b699), .val .null, .val (.int (1 : Int32)), .unset, .unset, .unset, .unset, .unset]) rfl ?_
            show Steps p.tables e below (T705.setTop (mkF m 133 #[.val (.int p1), .val (.int p2), .val (.int p3), .val (.int p4), .val .null, .val (.ref b699), .val .null, .val (.int (1 : Int32)), .unset, .unset, .unset, .unset, .unset] [])) _
            refine XS.iload X705.here hx rfl (hb hby at_133) rfl ?_
            show Steps p.tables e below (T705.setTop (mkF m 135 #[.val (.int p1), .val (.int p2), .val (.int p3), .val (.int p4), .val .null, .val (.ref b699), .val .null, .val (.int (1 : Int32)), .unset, .unset, .unset, .unset, .unset] [(.int (1 : Int32))])) _
            refine XS.ifNo X705.here hx rfl (hb hby at_135) rfl ((if0 _ _).trans (feq (by decide : ¬ ((1 : Int32) = (0 : Int32)))).1) ?_
            show Steps p.tables e below (T705.setTop (mkF m 138 #[.val (.int p1), .val (.int p2), .val (.int p3), .val (.int p4), .val .null, .val (.ref b699), .val .null, .val (.int (1 : Int32)), .unset, .unset, .unset, .unset, .unset] [])) _
            refine XS.aconstNull X705.here hx rfl (hb hby at_138) ?_
            show Steps p.tables e below (T705.setTop (mkF m 139 #[.val (.int p1), .val (.int p2), .val (.int p3), .val (.int p4), .val .null, .val (.ref b699), .val .null, .val (.int (1 : Int32)), .unset, .unset, .unset, .unset, .unset] [.null])) _
            refine XS.goto X705.here hx rfl (pc0 := 139) (pc' := 161) rfl (hb hby at_139) (by decide) (by decide) ?_
            show Steps p.tables e below (T705.setTop (mkF m 161 #[.val (.int p1), .val (.int p2), .val (.int p3), .val (.int p4), .val .null, .val (.ref b699), .val .null, .val (.int (1 : Int32)), .unset, .unset, .unset, .unset, .unset] [.null])) _
            refine XS.astore X705.here hx rfl (hb hby at_161) rfl rfl (l' := #[.val (.int p1), .val (.int p2), .val (.int p3), .val (.int p4), .val .null, .val (.ref b699), .val .null, .val (.int (1 : Int32)), .val .null, .unset, .unset, .unset, .unset]) rfl ?_
            show Steps p.tables e below (T705.setTop (mkF m 163 #[.val (.int p1), .val (.int p2), .val (.int p3), .val (.int p4), .val .null, .val (.ref b699), .val .null, .val (.int (1 : Int32)), .val .null, .unset, .unset, .unset, .unset] [])) _
            refine st1041 _ ?_
            show Steps p.tables e below (T1041.setTop (mkF m 166 #[.val (.int p1), .val (.int p2), .val (.int p3), .val (.int p4), .val .null, .val (.ref b699), .val .null, .val (.int (1 : Int32)), .val .null, .unset, .unset, .unset, .unset] [(.ref b1041)])) _
            refine XS.dup X1041.here hx rfl (hb hby at_166) rfl rfl ?_
            show Steps p.tables e below (T1041.setTop (mkF m 167 #[.val (.int p1), .val (.int p2), .val (.int p3), .val (.int p4), .val .null, .val (.ref b699), .val .null, .val (.int (1 : Int32)), .val .null, .unset, .unset, .unset, .unset] [(.ref b1041), (.ref b1041)])) _
            refine st1042 _ ?_
            show Steps p.tables e below (T1042.setTop (mkF m 169 #[.val (.int p1), .val (.int p2), .val (.int p3), .val (.int p4), .val .null, .val (.ref b699), .val .null, .val (.int (1 : Int32)), .val .null, .unset, .unset, .unset, .unset] [(.ref b1042), (.ref b1041), (.ref b1041)])) _
            refine XS.aload X1042.here hx rfl (hb hby at_169) rfl rfl ?_
            show Steps p.tables e below (T1042.setTop (mkF m 171 #[.val (.int p1), .val (.int p2), .val (.int p3), .val (.int p4), .val .null, .val (.ref b699), .val .null, .val (.int (1 : Int32)), .val .null, .unset, .unset, .unset, .unset] [.null, (.ref b1042), (.ref b1041), (.ref b1041)])) _
            refine st1043.trans ?_
            show Steps p.tables e below (T1043.setTop (mkF m 174 #[.val (.int p1), .val (.int p2), .val (.int p3), .val (.int p4), .val .null, .val (.ref b699), .val .null, .val (.int (1 : Int32)), .val .null, .unset, .unset, .unset, .unset] [(.ref b1041)])) _
            refine XS.astore X1043.here hx rfl (hb hby at_174) rfl rfl (l' := #[.val (.int p1), .val (.int p2), .val (.int p3), .val (.int p4), .val .null, .val (.ref b699), .val .null, .val (.int (1 : Int32)), .val .null, .val (.ref b1041), .unset, .unset, .unset]) rfl ?_
            show Steps p.tables e below (T1043.setTop (mkF m 176 #[.val (.int p1), .val (.int p2), .val (.int p3), .val (.int p4), .val .null, .val (.ref b699), .val .null, .val (.int (1 : Int32)), .val .null, .val (.ref b1041), .unset, .unset, .unset] [])) _
            refine XS.aload X1043.here hx rfl (hb hby at_176) rfl rfl ?_
            show Steps p.tables e below (T1043.setTop (mkF m 178 #[.val (.int p1), .val (.int p2), .val (.int p3), .val (.int p4), .val .null, .val (.ref b699), .val .null, .val (.int (1 : Int32)), .val .null, .val (.ref b1041), .unset, .unset, .unset] [(.ref b1041)])) _
            refine st1051 _ ?_
            show Steps p.tables e below (T1051.setTop (mkF m 181 #[.val (.int p1), .val (.int p2), .val (.int p3), .val (.int p4), .val .null, .val (.ref b699), .val .null, .val (.int (1 : Int32)), .val .null, .val (.ref b1041), .unset, .unset, .unset] [(.ref lf0), (.ref b1041)])) _
            refine st1052.trans ?_
            show Steps p.tables e below (T1052.setTop (mkF m 184 #[.val (.int p1), .val (.int p2), .val (.int p3), .val (.int p4), .val .null, .val (.ref b699), .val .null, .val (.int (1 : Int32)), .val .null, .val (.ref b1041), .unset, .unset, .unset] [.null])) _
            refine XS.astore X1052.here hx rfl (hb hby at_184) rfl rfl (l' := #[.val (.int p1), .val (.int p2), .val (.int p3), .val (.int p4), .val .null, .val (.ref b699), .val .null, .val (.int (1 : Int32)), .val .null, .val (.ref b1041), .val .null, .unset, .unset]) rfl ?_
            show Steps p.tables e below (T1052.setTop (mkF m 186 #[.val (.int p1), .val (.int p2), .val (.int p3), .val (.int p4), .val .null, .val (.ref b699), .val .null, .val (.int (1 : Int32)), .val .null, .val (.ref b1041), .val .null, .unset, .unset] [])) _
            refine XS.aload X1052.here hx rfl (hb hby at_186) rfl rfl ?_
            show Steps p.tables e below (T1052.setTop (mkF m 188 #[.val (.int p1), .val (.int p2), .val (.int p3), .val (.int p4), .val .null, .val (.ref b699), .val .null, .val (.int (1 : Int32)), .val .null, .val (.ref b1041), .val .null, .unset, .unset] [(.ref b1041)])) _
            refine st1053 _ ?_
            show Steps p.tables e below (T1053.setTop (mkF m 191 #[.val (.int p1), .val (.int p2), .val (.int p3), .val (.int p4), .val .null, .val (.ref b699), .val .null, .val (.int (1 : Int32)), .val .null, .val (.ref b1041), .val .null, .unset, .unset] [(.ref lf1), (.ref b1041)])) _
            refine st1054.trans ?_
            show Steps p.tables e below (T1054.setTop (mkF m 194 #[.val (.int p1), .val (.int p2), .val (.int p3), .val (.int p4), .val .null, .val (.ref b699), .val .null, .val (.int (1 : Int32)), .val .null, .val (.ref b1041), .val .null, .unset, .unset] [.null])) _
            refine XS.astore X1054.here hx rfl (hb hby at_194) rfl rfl (l' := #[.val (.int p1), .val (.int p2), .val (.int p3), .val (.int p4), .val .null, .val (.ref b699), .val .null, .val (.int (1 : Int32)), .val .null, .val (.ref b1041), .val .null, .val .null, .unset]) rfl ?_
            show Steps p.tables e below (T1054.setTop (mkF m 196 #[.val (.int p1), .val (.int p2), .val (.int p3), .val (.int p4), .val .null, .val (.ref b699), .val .null, .val (.int (1 : Int32)), .val .null, .val (.ref b1041), .val .null, .val .null, .unset] [])) _
            refine XS.aload X1054.here hx rfl (hb hby at_196) rfl rfl ?_
            show Steps p.tables e below (T1054.setTop (mkF m 198 #[.val (.int p1), .val (.int p2), .val (.int p3), .val (.int p4), .val .null, .val (.ref b699), .val .null, .val (.int (1 : Int32)), .val .null, .val (.ref b1041), .val .null, .val .null, .unset] [(.ref b1041)])) _
            refine st1055 _ ?_
            show Steps p.tables e below (T1055.setTop (mkF m 201 #[.val (.int p1), .val (.int p2), .val (.int p3), .val (.int p4), .val .null, .val (.ref b699), .val .null, .val (.int (1 : Int32)), .val .null, .val (.ref b1041), .val .null, .val .null, .unset] [(.ref lf2), (.ref b1041)])) _
            refine st1056.trans ?_
            show Steps p.tables e below (T1056.setTop (mkF m 204 #[.val (.int p1), .val (.int p2), .val (.int p3), .val (.int p4), .val .null, .val (.ref b699), .val .null, .val (.int (1 : Int32)), .val .null, .val (.ref b1041), .val .null, .val .null, .unset] [.null])) _
            refine XS.astore X1056.here hx rfl (hb hby at_204) rfl rfl (l' := #[.val (.int p1), .val (.int p2), .val (.int p3), .val (.int p4), .val .null, .val (.ref b699), .val .null, .val (.int (1 : Int32)), .val .null, .val (.ref b1041), .val .null, .val .null, .val .null]) rfl ?_
            show Steps p.tables e below (T1056.setTop (mkF m 206 #[.val (.int p1), .val (.int p2), .val (.int p3), .val (.int p4), .val .null, .val (.ref b699), .val .null, .val (.int (1 : Int32)), .val .null, .val (.ref b1041), .val .null, .val .null, .val .null] [])) _
            refine XS.iload X1056.here hx rfl (hb hby at_206) rfl ?_
            show Steps p.tables e below (T1056.setTop (mkF m 208 #[.val (.int p1), .val (.int p2), .val (.int p3), .val (.int p4), .val .null, .val (.ref b699), .val .null, .val (.int (1 : Int32)), .val .null, .val (.ref b1041), .val .null, .val .null, .val .null] [(.int (1 : Int32))])) _
            refine XS.ifNo X1056.here hx rfl (hb hby at_208) rfl ((if0 _ _).trans (feq (by decide : ¬ ((1 : Int32) = (0 : Int32)))).1) ?_
            show Steps p.tables e below (T1056.setTop (mkF m 211 #[.val (.int p1), .val (.int p2), .val (.int p3), .val (.int p4), .val .null, .val (.ref b699), .val .null, .val (.int (1 : Int32)), .val .null, .val (.ref b1041), .val .null, .val .null, .val .null] [])) _
            refine XS.aload X1056.here hx rfl (hb hby at_211) rfl rfl ?_
            show Steps p.tables e below (T1056.setTop (mkF m 213 #[.val (.int p1), .val (.int p2), .val (.int p3), .val (.int p4), .val .null, .val (.ref b699), .val .null, .val (.int (1 : Int32)), .val .null, .val (.ref b1041), .val .null, .val .null, .val .null] [.null])) _
            refine XS.ifnonnullNo X1056.here hx rfl (hb hby at_213) rfl ?_
            show Steps p.tables e below (T1056.setTop (mkF m 216 #[.val (.int p1), .val (.int p2), .val (.int p3), .val (.int p4), .val .null, .val (.ref b699), .val .null, .val (.int (1 : Int32)), .val .null, .val (.ref b1041), .val .null, .val .null, .val .null] [])) _
            refine XS.aload X1056.here hx rfl (hb hby at_216) rfl rfl ?_
            show Steps p.tables e below (T1056.setTop (mkF m 218 #[.val (.int p1), .val (.int p2), .val (.int p3), .val (.int p4), .val .null, .val (.ref b699), .val .null, .val (.int (1 : Int32)), .val .null, .val (.ref b1041), .val .null, .val .null, .val .null] [.null])) _
            refine XS.ifnonnullNo X1056.here hx rfl (hb hby at_218) rfl ?_
            show Steps p.tables e below (T1056.setTop (mkF m 221 #[.val (.int p1), .val (.int p2), .val (.int p3), .val (.int p4), .val .null, .val (.ref b699), .val .null, .val (.int (1 : Int32)), .val .null, .val (.ref b1041), .val .null, .val .null, .val .null] [])) _
            refine XS.aload X1056.here hx rfl (hb hby at_221) rfl rfl ?_
            show Steps p.tables e below (T1056.setTop (mkF m 223 #[.val (.int p1), .val (.int p2), .val (.int p3), .val (.int p4), .val .null, .val (.ref b699), .val .null, .val (.int (1 : Int32)), .val .null, .val (.ref b1041), .val .null, .val .null, .val .null] [.null])) _
            refine XS.ifnonnullNo X1056.here hx rfl (hb hby at_223) rfl ?_
            show Steps p.tables e below (T1056.setTop (mkF m 226 #[.val (.int p1), .val (.int p2), .val (.int p3), .val (.int p4), .val .null, .val (.ref b699), .val .null, .val (.int (1 : Int32)), .val .null, .val (.ref b1041), .val .null, .val .null, .val .null] [])) _
            refine XS.iconst X1056.here hx rfl (hb hby at_226) ?_
            show Steps p.tables e below (T1056.setTop (mkF m 227 #[.val (.int p1), .val (.int p2), .val (.int p3), .val (.int p4), .val .null, .val (.ref b699), .val .null, .val (.int (1 : Int32)), .val .null, .val (.ref b1041), .val .null, .val .null, .val .null] [(.int (1 : Int32))])) _
            refine XS.goto X1056.here hx rfl (pc0 := 227) (pc' := 231) rfl (hb hby at_227) (by decide) (by decide) ?_
            show Steps p.tables e below (T1056.setTop (mkF m 231 #[.val (.int p1), .val (.int p2), .val (.int p3), .val (.int p4), .val .null, .val (.ref b699), .val .null, .val (.int (1 : Int32)), .val .null, .val (.ref b1041), .val .null, .val .null, .val .null] [(.int (1 : Int32))])) _
            exact retN X1056 hx (t := .boolean) Bd.returns (by simp) (hb hby at_231) hr
          · show Q_rm0 Z p1 p2 p3 p4 cs lf0 lf1 lf2 h0 n0 _ T1056.heap _
            rw [H1056]
            exact ⟨rfl, N1056⟩
    · skip
      have pre1058 : ∀ t, Steps p.tables e below (s₁.setTop (mkF m 67 #[.val (.int p1), .val (.int p2), .val (.int p3), .val (.int p4), .val .null, .val .null, .unset, .unset, .unset, .unset, .unset, .unset, .unset] [(.int (p1 &&& (4 : Int32)))])) t → Steps p.tables e below (s₁.setTop (entryFrame m #[(.int p1), (.int p2), (.int p3), (.int p4)] maxLocals)) t := by
        intro t kt
        refine pre698 _ ?_
        show Steps p.tables e below (s₁.setTop (mkF m 24 #[.val (.int p1), .val (.int p2), .val (.int p3), .val (.int p4), .val .null, .unset, .unset, .unset, .unset, .unset, .unset, .unset, .unset] [(.int (p1 &&& (2 : Int32)))])) _
        refine XS.ifNo X0.here hx rfl (hb hby at_24) rfl ((if0 _ _).trans (feq hc697).1) ?_
        show Steps p.tables e below (s₁.setTop (mkF m 27 #[.val (.int p1), .val (.int p2), .val (.int p3), .val (.int p4), .val .null, .unset, .unset, .unset, .unset, .unset, .unset, .unset, .unset] [])) _
        refine XS.aconstNull X0.here hx rfl (hb hby at_27) ?_
        show Steps p.tables e below (s₁.setTop (mkF m 28 #[.val (.int p1), .val (.int p2), .val (.int p3), .val (.int p4), .val .null, .unset, .unset, .unset, .unset, .unset, .unset, .unset, .unset] [.null])) _
        refine XS.goto X0.here hx rfl (pc0 := 28) (pc' := 62) rfl (hb hby at_28) (by decide) (by decide) ?_
        show Steps p.tables e below (s₁.setTop (mkF m 62 #[.val (.int p1), .val (.int p2), .val (.int p3), .val (.int p4), .val .null, .unset, .unset, .unset, .unset, .unset, .unset, .unset, .unset] [.null])) _
        refine XS.astore X0.here hx rfl (hb hby at_62) rfl rfl (l' := #[.val (.int p1), .val (.int p2), .val (.int p3), .val (.int p4), .val .null, .val .null, .unset, .unset, .unset, .unset, .unset, .unset, .unset]) rfl ?_
        show Steps p.tables e below (s₁.setTop (mkF m 64 #[.val (.int p1), .val (.int p2), .val (.int p3), .val (.int p4), .val .null, .val .null, .unset, .unset, .unset, .unset, .unset, .unset, .unset] [])) _
        refine XS.iloadN X0.here hx rfl (hb hby at_64) rfl ?_
        show Steps p.tables e below (s₁.setTop (mkF m 65 #[.val (.int p1), .val (.int p2), .val (.int p3), .val (.int p4), .val .null, .val .null, .unset, .unset, .unset, .unset, .unset, .unset, .unset] [(.int p1)])) _
        refine XS.iconst X0.here hx rfl (hb hby at_65) ?_
        show Steps p.tables e below (s₁.setTop (mkF m 66 #[.val (.int p1), .val (.int p2), .val (.int p3), .val (.int p4), .val .null, .val .null, .unset, .unset, .unset, .unset, .unset, .unset, .unset] [(.int (4 : Int32)), (.int p1)])) _
        refine XS.iand X0.here hx rfl (hb hby at_66) rfl ?_
        exact kt
      by_cases hc1057 : (p1 &&& (4 : Int32)) = (0 : Int32)
      · skip
        obtain ⟨T1059, h1059, X1059, e1059, E1059, A1059, D1059, -, st1059⟩ := newO X0 hx hZ hown (tw hw 26 rfl) (tw hw 10 rfl) (tw hw 2 rfl) e0 (g := (mkF m 74 #[.val (.int p1), .val (.int p2), .val (.int p3), .val (.int p4), .val .null, .val .null, .unset, .unset, .unset, .unset, .unset, .unset, .unset] [])) rfl (hb hby at_74) (by decide) (by decide)
        obtain ⟨b1059, g1059⟩ : ∃ z, z = h0.size := ⟨_, rfl⟩
        rw [← g1059] at A1059 D1059 st1059
        have lt1059 : @LT.lt Nat _ b1059 h1059.size := A1059.lt
        have K1059 : Keep h0 h1059 [] := (Keep.refl _ _).ext E1059
        have sz1_K1059 := K1059.1
        have F1059_value : Fld Z h1059 b1059 "java/lang/String" "value" "[B" .null := D1059 (Or.inr (tw hw 23 rfl)) (ty := (.array .byte)) (by decide)
        have F1059_coder : Fld Z h1059 b1059 "java/lang/String" "coder" "B" (.int (0 : Int32)) := D1059 (Or.inr (tw hw 25 rfl)) (ty := .byte) (by decide)
        obtain ⟨T1060, h1060, k1060, X1060, e1060, E1060, A1060, st1060⟩ := newP X1059 hx hZ (tw hw 27 rfl) e1059 (g := (mkF m 79 #[.val (.int p1), .val (.int p2), .val (.int p3), .val (.int p4), .val .null, .val .null, .unset, .unset, .unset, .unset, .unset, .unset, .unset] [(.int (3 : Int32)), (.ref b1059), (.ref b1059)])) rfl (hb hby at_79) rfl (by decide) (cap := 3) (by decide) (by decide) (by decide) (by decide)
        obtain ⟨b1060, g1060⟩ : ∃ z, z = h1059.size := ⟨_, rfl⟩
        rw [← g1060] at A1060 st1060
        have V1060 : Arv Z h1060 b1060 k1060 .char (3 : Int32) [(.int (0 : Int32)), (.int (0 : Int32)), (.int (0 : Int32))] (.int (0 : Int32)) := (Arv.new A1060 (by decide)).pad (pad_rep [] (.int (0 : Int32)) 3)
        have lt1060 : @LT.lt Nat _ b1060 h1060.size := V1060.lt
        have K1060 : Keep h1059 h1060 [] := (Keep.refl _ _).ext E1060
        have sz2_K1060 := K1060.1
        obtain ⟨cl1061, Ar1061, q1061, S1061, Nn1061, H1061, G1061⟩ := V1060
        obtain ⟨T1062, h1062, X1062, e1062, W1062, st1062⟩ := stC X1060 hx hZ e1060 Ar1061 (j := (0 : Int32)) (inb_of S1061 ⟨by decide, by decide⟩) (g := (mkF m 89 #[.val (.int p1), .val (.int p2), .val (.int p3), .val (.int p4), .val .null, .val .null, .unset, .unset, .unset, .unset, .unset, .unset, .unset] [(.int ((p4 &&& (255 : Int32)).toUInt32.toUInt16.toUInt32.toInt32)), (.int (0 : Int32)), (.ref b1060), (.ref b1060), (.ref b1059), (.ref b1059)])) rfl rfl (hb hby at_89)
        have V1062 : Arv Z h1062 b1060 k1060 .char (3 : Int32) [(.int (((p4 &&& (255 : Int32)).toUInt32.toUInt16.toUInt32.toInt32).toUInt32.toUInt16.toUInt32.toInt32)), (.int (0 : Int32)), (.int (0 : Int32))] (.int (0 : Int32)) := Arv.set Ar1061 q1061 S1061 Nn1061 H1061 G1061 (fits_nar_char _) W1062 0 rfl (Nat.le_of_ble_eq_true rfl)
        have K1062 := Keep.of_wr W1062
        have N1062 := Fr.snoc X1062 N0 (by omega : @LE.le Nat _ n0 b1060)
        have sz3_K1062 := K1062.1
        obtain ⟨cl1063, Ar1063, q1063, S1063, Nn1063, H1063, G1063⟩ := V1062
        obtain ⟨T1064, h1064, X1064, e1064, W1064, st1064⟩ := stC X1062 hx hZ e1062 Ar1063 (j := (1 : Int32)) (inb_of S1063 ⟨by decide, by decide⟩) (g := (mkF m 101 #[.val (.int p1), .val (.int p2), .val (.int p3), .val (.int p4), .val .null, .val .null, .unset, .unset, .unset, .unset, .unset, .unset, .unset] [(.int ((((p4.toUInt32 >>> ((8 : Int32) &&& 31).toUInt32).toInt32) &&& (255 : Int32)).toUInt32.toUInt16.toUInt32.toInt32)), (.int (1 : Int32)), (.ref b1060), (.ref b1060), (.ref b1059), (.ref b1059)])) rfl rfl (hb hby at_101)
        have V1064 : Arv Z h1064 b1060 k1060 .char (3 : Int32) [(.int (((p4 &&& (255 : Int32)).toUInt32.toUInt16.toUInt32.toInt32).toUInt32.toUInt16.toUInt32.toInt32)), (.int (((((p4.toUInt32 >>> ((8 : Int32) &&& 31).toUInt32).toInt32) &&& (255 : Int32)).toUInt32.toUInt16.toUInt32.toInt32).toUInt32.toUInt16.toUInt32.toInt32)), (.int (0 : Int32))] (.int (0 : Int32)) := Arv.set Ar1063 q1063 S1063 Nn1063 H1063 G1063 (fits_nar_char _) W1064 1 rfl (Nat.le_of_ble_eq_true rfl)
        have K1064 := Keep.of_wr W1064
        have N1064 := Fr.snoc X1064 N1062 (by omega : @LE.le Nat _ n0 b1060)
        have sz4_K1064 := K1064.1
        obtain ⟨cl1065, Ar1065, q1065, S1065, Nn1065, H1065, G1065⟩ := V1064
        obtain ⟨T1066, h1066, X1066, e1066, W1066, st1066⟩ := stC X1064 hx hZ e1064 Ar1065 (j := (2 : Int32)) (inb_of S1065 ⟨by decide, by decide⟩) (g := (mkF m 113 #[.val (.int p1), .val (.int p2), .val (.int p3), .val (.int p4), .val .null, .val .null, .unset, .unset, .unset, .unset, .unset, .unset, .unset] [(.int ((((p4.toUInt32 >>> ((16 : Int32) &&& 31).toUInt32).toInt32) &&& (255 : Int32)).toUInt32.toUInt16.toUInt32.toInt32)), (.int (2 : Int32)), (.ref b1060), (.ref b1060), (.ref b1059), (.ref b1059)])) rfl rfl (hb hby at_113)
        have V1066 : Arv Z h1066 b1060 k1060 .char (3 : Int32) [(.int (((p4 &&& (255 : Int32)).toUInt32.toUInt16.toUInt32.toInt32).toUInt32.toUInt16.toUInt32.toInt32)), (.int (((((p4.toUInt32 >>> ((8 : Int32) &&& 31).toUInt32).toInt32) &&& (255 : Int32)).toUInt32.toUInt16.toUInt32.toInt32).toUInt32.toUInt16.toUInt32.toInt32)), (.int (((((p4.toUInt32 >>> ((16 : Int32) &&& 31).toUInt32).toInt32) &&& (255 : Int32)).toUInt32.toUInt16.toUInt32.toInt32).toUInt32.toUInt16.toUInt32.toInt32))] (.int (0 : Int32)) := Arv.set Ar1065 q1065 S1065 Nn1065 H1065 G1065 (fits_nar_char _) W1066 2 rfl (Nat.le_of_ble_eq_true rfl)
        have K1066 := Keep.of_wr W1066
        have N1066 := Fr.snoc X1066 N1064 (by omega : @LE.le Nat _ n0 b1060)
        have sz5_K1066 := K1066.1
        have C1068 := A1059.keep K1060
        have C1069 := C1068.keep K1062
        have C1070 := C1069.keep K1064
        have C1071 := C1070.keep K1066
        have C1072 := F1059_value.keep K1060 nin0
        have C1073 := C1072.keep K1062 (ninS (by omega : @Ne Nat b1059 b1060) (nin0))
        have C1074 := C1073.keep K1064 (ninS (by omega : @Ne Nat b1059 b1060) (nin0))
        have C1075 := C1074.keep K1066 (ninS (by omega : @Ne Nat b1059 b1060) (nin0))
        have C1076 := F1059_coder.keep K1060 nin0
        have C1077 := C1076.keep K1062 (ninS (by omega : @Ne Nat b1059 b1060) (nin0))
        have C1078 := C1077.keep K1064 (ninS (by omega : @Ne Nat b1059 b1060) (nin0))
        have C1079 := C1078.keep K1066 (ninS (by omega : @Ne Nat b1059 b1060) (nin0))
        have O1080 : Old Z n0 h1059 := O0.keep K1059 all0
        have O1081 : Old Z n0 h1060 := O1080.keep K1060 all0
        have O1082 : Old Z n0 h1062 := O1081.keep K1062 (allS (by omega) (all0))
        have O1083 : Old Z n0 h1064 := O1082.keep K1064 (allS (by omega) (all0))
        have O1084 : Old Z n0 h1066 := O1083.keep K1066 (allS (by omega) (all0))
        obtain ⟨_, _, ⟨T1067, L1067, k1067, n1067⟩, -, X1067, ⟨Lc1067, hQ1067, l1067, y1067, z1067⟩, st1067⟩ := X1066.specialBack hx (y := (⟨"java/lang/String", "<init>", "([C)V"⟩ : MethodName)) rfl hown (mvT hZ (tw hw 28 rfl)) (mvT hZ (tw hw 29 rfl)) (mvT hZ (tw hw 30 rfl)) (by decide) (StrChars.Road.backV (W := 1) hZ hws (kI := 4) (tw hw 10 rfl) (cs := ([(((p4 &&& (255 : Int32)).toUInt32.toUInt16.toUInt32.toInt32).toUInt32.toUInt16.toUInt32.toInt32), (((((p4.toUInt32 >>> ((8 : Int32) &&& 31).toUInt32).toInt32) &&& (255 : Int32)).toUInt32.toUInt16.toUInt32.toInt32).toUInt32.toUInt16.toUInt32.toInt32), (((((p4.toUInt32 >>> ((16 : Int32) &&& 31).toUInt32).toInt32) &&& (255 : Int32)).toUInt32.toUInt16.toUInt32.toInt32).toUInt32.toUInt16.toUInt32.toInt32)] : List Int32)) (bs := ([(((p4 &&& (255 : Int32)).toUInt32.toUInt16.toUInt32.toInt32).toUInt32.toUInt16.toUInt32.toInt32), (((((p4.toUInt32 >>> ((8 : Int32) &&& 31).toUInt32).toInt32) &&& (255 : Int32)).toUInt32.toUInt16.toUInt32.toInt32).toUInt32.toUInt16.toUInt32.toInt32), (((((p4.toUInt32 >>> ((16 : Int32) &&& 31).toUInt32).toInt32) &&& (255 : Int32)).toUInt32.toUInt16.toUInt32.toInt32).toUInt32.toUInt16.toUInt32.toInt32)] : List Int32).map (fun c => c.toInt8.toInt32)) (n := 3) (by omega : @LE.le Nat _ n0 b1059) (by omega) C1071 C1075 C1079 V1066 (Sta.ext O1084.2 S_CS) c_CS rfl rfl (by decide) (by decide) (by intro d hd; simp only [List.mem_cons, List.not_mem_nil, or_false] at hd; rcases hd with rfl | rfl | rfl <;> exact own_byte _) rfl (by decide) (by decide)) (g := (mkF m 114 #[.val (.int p1), .val (.int p2), .val (.int p3), .val (.int p4), .val .null, .val .null, .unset, .unset, .unset, .unset, .unset, .unset, .unset] [(.ref b1060), (.ref b1059), (.ref b1059)])) rfl (by rw [hml]; rfl) (Steps.refl _) (a := b1059) (argsL := [(.ref b1060)]) (rest := [(.ref b1059)]) (lenOf pd_5 rfl) rfl (by show 2 * 0 + _ ≤ _; exact Nat.le_of_eq rfl) (hb hby at_114) (fun _ _ => ⟨rfl, e1066, (by decide : 2 + 1 ≤ _), (by decide : 7 + 3 ≤ _)⟩)
        dsimp only [Pt.U, Pt.locs, Pt.cells, Pt.slots] at X1067 l1067 y1067 z1067 st1067 hQ1067
        subst l1067 y1067 z1067
        obtain ⟨rfl, N1067q, K1067, E1067, C1067, t1067, kb1067, ge1067, gh1067, tx1067, Vf1067, Av1067⟩ := hQ1067
        have lt1067 : @LT.lt Nat _ t1067 T1067.heap.size := Av1067.lt
        have sz6_K1067 := K1067.1
        have N1067 := Fr.app N1066 N1067q
        have pre1086 : ∀ t, Steps p.tables e below (T1067.setTop (mkF m 123 #[.val (.int p1), .val (.int p2), .val (.int p3), .val (.int p4), .val .null, .val .null, .val (.ref b1059), .unset, .unset, .unset, .unset, .unset, .unset] [(.int (p1 &&& (8 : Int32)))])) t → Steps p.tables e below (s₁.setTop (entryFrame m #[(.int p1), (.int p2), (.int p3), (.int p4)] maxLocals)) t := by
          intro t kt
          refine pre1058 _ ?_
          show Steps p.tables e below (s₁.setTop (mkF m 67 #[.val (.int p1), .val (.int p2), .val (.int p3), .val (.int p4), .val .null, .val .null, .unset, .unset, .unset, .unset, .unset, .unset, .unset] [(.int (p1 &&& (4 : Int32)))])) _
          refine XS.ifYes X0.here hx rfl (pc0 := 67) (pc' := 74) rfl (hb hby at_67) rfl ((if0 _ _).trans (teq hc1057).1) (by decide) (by decide) ?_
          show Steps p.tables e below (s₁.setTop (mkF m 74 #[.val (.int p1), .val (.int p2), .val (.int p3), .val (.int p4), .val .null, .val .null, .unset, .unset, .unset, .unset, .unset, .unset, .unset] [])) _
          refine st1059 _ ?_
          show Steps p.tables e below (T1059.setTop (mkF m 77 #[.val (.int p1), .val (.int p2), .val (.int p3), .val (.int p4), .val .null, .val .null, .unset, .unset, .unset, .unset, .unset, .unset, .unset] [(.ref b1059)])) _
          refine XS.dup X1059.here hx rfl (hb hby at_77) rfl rfl ?_
          show Steps p.tables e below (T1059.setTop (mkF m 78 #[.val (.int p1), .val (.int p2), .val (.int p3), .val (.int p4), .val .null, .val .null, .unset, .unset, .unset, .unset, .unset, .unset, .unset] [(.ref b1059), (.ref b1059)])) _
          refine XS.iconst X1059.here hx rfl (hb hby at_78) ?_
          show Steps p.tables e below (T1059.setTop (mkF m 79 #[.val (.int p1), .val (.int p2), .val (.int p3), .val (.int p4), .val .null, .val .null, .unset, .unset, .unset, .unset, .unset, .unset, .unset] [(.int (3 : Int32)), (.ref b1059), (.ref b1059)])) _
          refine st1060 _ ?_
          show Steps p.tables e below (T1060.setTop (mkF m 81 #[.val (.int p1), .val (.int p2), .val (.int p3), .val (.int p4), .val .null, .val .null, .unset, .unset, .unset, .unset, .unset, .unset, .unset] [(.ref b1060), (.ref b1059), (.ref b1059)])) _
          refine XS.dup X1060.here hx rfl (hb hby at_81) rfl rfl ?_
          show Steps p.tables e below (T1060.setTop (mkF m 82 #[.val (.int p1), .val (.int p2), .val (.int p3), .val (.int p4), .val .null, .val .null, .unset, .unset, .unset, .unset, .unset, .unset, .unset] [(.ref b1060), (.ref b1060), (.ref b1059), (.ref b1059)])) _
          refine XS.iconst X1060.here hx rfl (hb hby at_82) ?_
          show Steps p.tables e below (T1060.setTop (mkF m 83 #[.val (.int p1), .val (.int p2), .val (.int p3), .val (.int p4), .val .null, .val .null, .unset, .unset, .unset, .unset, .unset, .unset, .unset] [(.int (0 : Int32)), (.ref b1060), (.ref b1060), (.ref b1059), (.ref b1059)])) _
          refine XS.iloadN X1060.here hx rfl (hb hby at_83) rfl ?_
          show Steps p.tables e below (T1060.setTop (mkF m 84 #[.val (.int p1), .val (.int p2), .val (.int p3), .val (.int p4), .val .null, .val .null, .unset, .unset, .unset, .unset, .unset, .unset, .unset] [(.int p4), (.int (0 : Int32)), (.ref b1060), (.ref b1060), (.ref b1059), (.ref b1059)])) _
          refine XS.sipush X1060.here hx rfl (hb hby at_84) ?_
          show Steps p.tables e below (T1060.setTop (mkF m 87 #[.val (.int p1), .val (.int p2), .val (.int p3), .val (.int p4), .val .null, .val .null, .unset, .unset, .unset, .unset, .unset, .unset, .unset] [(.int (255 : Int32)), (.int p4), (.int (0 : Int32)), (.ref b1060), (.ref b1060), (.ref b1059), (.ref b1059)])) _
          refine XS.iand X1060.here hx rfl (hb hby at_87) rfl ?_
          show Steps p.tables e below (T1060.setTop (mkF m 88 #[.val (.int p1), .val (.int p2), .val (.int p3), .val (.int p4), .val .null, .val .null, .unset, .unset, .unset, .unset, .unset, .unset, .unset] [(.int (p4 &&& (255 : Int32))), (.int (0 : Int32)), (.ref b1060), (.ref b1060), (.ref b1059), (.ref b1059)])) _
          refine XS.i2c X1060.here hx rfl (hb hby at_88) rfl ?_
          show Steps p.tables e below (T1060.setTop (mkF m 89 #[.val (.int p1), .val (.int p2), .val (.int p3), .val (.int p4), .val .null, .val .null, .unset, .unset, .unset, .unset, .unset, .unset, .unset] [(.int ((p4 &&& (255 : Int32)).toUInt32.toUInt16.toUInt32.toInt32)), (.int (0 : Int32)), (.ref b1060), (.ref b1060), (.ref b1059), (.ref b1059)])) _
          refine st1062 _ ?_
          show Steps p.tables e below (T1062.setTop (mkF m 90 #[.val (.int p1), .val (.int p2), .val (.int p3), .val (.int p4), .val .null, .val .null, .unset, .unset, .unset, .unset, .unset, .unset, .unset] [(.ref b1060), (.ref b1059), (.ref b1059)])) _
          refine XS.dup X1062.here hx rfl (hb hby at_90) rfl rfl ?_
          show Steps p.tables e below (T1062.setTop (mkF m 91 #[.val (.int p1), .val (.int p2), .val (.int p3), .val (.int p4), .val .null, .val .null, .unset, .unset, .unset, .unset, .unset, .unset, .unset] [(.ref b1060), (.ref b1060), (.ref b1059), (.ref b1059)])) _
          refine XS.iconst X1062.here hx rfl (hb hby at_91) ?_
          show Steps p.tables e below (T1062.setTop (mkF m 92 #[.val (.int p1), .val (.int p2), .val (.int p3), .val (.int p4), .val .null, .val .null, .unset, .unset, .unset, .unset, .unset, .unset, .unset] [(.int (1 : Int32)), (.ref b1060), (.ref b1060), (.ref b1059), (.ref b1059)])) _
          refine XS.iloadN X1062.here hx rfl (hb hby at_92) rfl ?_
          show Steps p.tables e below (T1062.setTop (mkF m 93 #[.val (.int p1), .val (.int p2), .val (.int p3), .val (.int p4), .val .null, .val .null, .unset, .unset, .unset, .unset, .unset, .unset, .unset] [(.int p4), (.int (1 : Int32)), (.ref b1060), (.ref b1060), (.ref b1059), (.ref b1059)])) _
          refine XS.bipush X1062.here hx rfl (hb hby at_93) ?_
          show Steps p.tables e below (T1062.setTop (mkF m 95 #[.val (.int p1), .val (.int p2), .val (.int p3), .val (.int p4), .val .null, .val .null, .unset, .unset, .unset, .unset, .unset, .unset, .unset] [(.int (8 : Int32)), (.int p4), (.int (1 : Int32)), (.ref b1060), (.ref b1060), (.ref b1059), (.ref b1059)])) _
          refine XS.iushr X1062.here hx rfl (hb hby at_95) rfl ?_
          show Steps p.tables e below (T1062.setTop (mkF m 96 #[.val (.int p1), .val (.int p2), .val (.int p3), .val (.int p4), .val .null, .val .null, .unset, .unset, .unset, .unset, .unset, .unset, .unset] [(.int ((p4.toUInt32 >>> ((8 : Int32) &&& 31).toUInt32).toInt32)), (.int (1 : Int32)), (.ref b1060), (.ref b1060), (.ref b1059), (.ref b1059)])) _
          refine XS.sipush X1062.here hx rfl (hb hby at_96) ?_
          show Steps p.tables e below (T1062.setTop (mkF m 99 #[.val (.int p1), .val (.int p2), .val (.int p3), .val (.int p4), .val .null, .val .null, .unset, .unset, .unset, .unset, .unset, .unset, .unset] [(.int (255 : Int32)), (.int ((p4.toUInt32 >>> ((8 : Int32) &&& 31).toUInt32).toInt32)), (.int (1 : Int32)), (.ref b1060), (.ref b1060), (.ref b1059), (.ref b1059)])) _
          refine XS.iand X1062.here hx rfl (hb hby at_99) rfl ?_
          show Steps p.tables e below (T1062.setTop (mkF m 100 #[.val (.int p1), .val (.int p2), .val (.int p3), .val (.int p4), .val .null, .val .null, .unset, .unset, .unset, .unset, .unset, .unset, .unset] [(.int (((p4.toUInt32 >>> ((8 : Int32) &&& 31).toUInt32).toInt32) &&& (255 : Int32))), (.int (1 : Int32)), (.ref b1060), (.ref b1060), (.ref b1059), (.ref b1059)])) _
          refine XS.i2c X1062.here hx rfl (hb hby at_100) rfl ?_
          show Steps p.tables e below (T1062.setTop (mkF m 101 #[.val (.int p1), .val (.int p2), .val (.int p3), .val (.int p4), .val .null, .val .null, .unset, .unset, .unset, .unset, .unset, .unset, .unset] [(.int ((((p4.toUInt32 >>> ((8 : Int32) &&& 31).toUInt32).toInt32) &&& (255 : Int32)).toUInt32.toUInt16.toUInt32.toInt32)), (.int (1 : Int32)), (.ref b1060), (.ref b1060), (.ref b1059), (.ref b1059)])) _
          refine st1064 _ ?_
          show Steps p.tables e below (T1064.setTop (mkF m 102 #[.val (.int p1), .val (.int p2), .val (.int p3), .val (.int p4), .val .null, .val .null, .unset, .unset, .unset, .unset, .unset, .unset, .unset] [(.ref b1060), (.ref b1059), (.ref b1059)])) _
          refine XS.dup X1064.here hx rfl (hb hby at_102) rfl rfl ?_
          show Steps p.tables e below (T1064.setTop (mkF m 103 #[.val (.int p1), .val (.int p2), .val (.int p3), .val (.int p4), .val .null, .val .null, .unset, .unset, .unset, .unset, .unset, .unset, .unset] [(.ref b1060), (.ref b1060), (.ref b1059), (.ref b1059)])) _
          refine XS.iconst X1064.here hx rfl (hb hby at_103) ?_
          show Steps p.tables e below (T1064.setTop (mkF m 104 #[.val (.int p1), .val (.int p2), .val (.int p3), .val (.int p4), .val .null, .val .null, .unset, .unset, .unset, .unset, .unset, .unset, .unset] [(.int (2 : Int32)), (.ref b1060), (.ref b1060), (.ref b1059), (.ref b1059)])) _
          refine XS.iloadN X1064.here hx rfl (hb hby at_104) rfl ?_
          show Steps p.tables e below (T1064.setTop (mkF m 105 #[.val (.int p1), .val (.int p2), .val (.int p3), .val (.int p4), .val .null, .val .null, .unset, .unset, .unset, .unset, .unset, .unset, .unset] [(.int p4), (.int (2 : Int32)), (.ref b1060), (.ref b1060), (.ref b1059), (.ref b1059)])) _
          refine XS.bipush X1064.here hx rfl (hb hby at_105) ?_
          show Steps p.tables e below (T1064.setTop (mkF m 107 #[.val (.int p1), .val (.int p2), .val (.int p3), .val (.int p4), .val .null, .val .null, .unset, .unset, .unset, .unset, .unset, .unset, .unset] [(.int (16 : Int32)), (.int p4), (.int (2 : Int32)), (.ref b1060), (.ref b1060), (.ref b1059), (.ref b1059)])) _
          refine XS.iushr X1064.here hx rfl (hb hby at_107) rfl ?_
          show Steps p.tables e below (T1064.setTop (mkF m 108 #[.val (.int p1), .val (.int p2), .val (.int p3), .val (.int p4), .val .null, .val .null, .unset, .unset, .unset, .unset, .unset, .unset, .unset] [(.int ((p4.toUInt32 >>> ((16 : Int32) &&& 31).toUInt32).toInt32)), (.int (2 : Int32)), (.ref b1060), (.ref b1060), (.ref b1059), (.ref b1059)])) _
          refine XS.sipush X1064.here hx rfl (hb hby at_108) ?_
          show Steps p.tables e below (T1064.setTop (mkF m 111 #[.val (.int p1), .val (.int p2), .val (.int p3), .val (.int p4), .val .null, .val .null, .unset, .unset, .unset, .unset, .unset, .unset, .unset] [(.int (255 : Int32)), (.int ((p4.toUInt32 >>> ((16 : Int32) &&& 31).toUInt32).toInt32)), (.int (2 : Int32)), (.ref b1060), (.ref b1060), (.ref b1059), (.ref b1059)])) _
          refine XS.iand X1064.here hx rfl (hb hby at_111) rfl ?_
          show Steps p.tables e below (T1064.setTop (mkF m 112 #[.val (.int p1), .val (.int p2), .val (.int p3), .val (.int p4), .val .null, .val .null, .unset, .unset, .unset, .unset, .unset, .unset, .unset] [(.int (((p4.toUInt32 >>> ((16 : Int32) &&& 31).toUInt32).toInt32) &&& (255 : Int32))), (.int (2 : Int32)), (.ref b1060), (.ref b1060), (.ref b1059), (.ref b1059)])) _
          refine XS.i2c X1064.here hx rfl (hb hby at_112) rfl ?_
          show Steps p.tables e below (T1064.setTop (mkF m 113 #[.val (.int p1), .val (.int p2), .val (.int p3), .val (.int p4), .val .null, .val .null, .unset, .unset, .unset, .unset, .unset, .unset, .unset] [(.int ((((p4.toUInt32 >>> ((16 : Int32) &&& 31).toUInt32).toInt32) &&& (255 : Int32)).toUInt32.toUInt16.toUInt32.toInt32)), (.int (2 : Int32)), (.ref b1060), (.ref b1060), (.ref b1059), (.ref b1059)])) _
          refine st1066 _ ?_
          show Steps p.tables e below (T1066.setTop (mkF m 114 #[.val (.int p1), .val (.int p2), .val (.int p3), .val (.int p4), .val .null, .val .null, .unset, .unset, .unset, .unset, .unset, .unset, .unset] [(.ref b1060), (.ref b1059), (.ref b1059)])) _
          refine st1067.trans ?_
          show Steps p.tables e below (T1067.setTop (mkF m 117 #[.val (.int p1), .val (.int p2), .val (.int p3), .val (.int p4), .val .null, .val .null, .unset, .unset, .unset, .unset, .unset, .unset, .unset] [(.ref b1059)])) _
          refine XS.astore X1067.here hx rfl (hb hby at_117) rfl rfl (l' := #[.val (.int p1), .val (.int p2), .val (.int p3), .val (.int p4), .val .null, .val .null, .val (.ref b1059), .unset, .unset, .unset, .unset, .unset, .unset]) rfl ?_
          show Steps p.tables e below (T1067.setTop (mkF m 119 #[.val (.int p1), .val (.int p2), .val (.int p3), .val (.int p4), .val .null, .val .null, .val (.ref b1059), .unset, .unset, .unset, .unset, .unset, .unset] [])) _
          refine XS.iloadN X1067.here hx rfl (hb hby at_119) rfl ?_
          show Steps p.tables e below (T1067.setTop (mkF m 120 #[.val (.int p1), .val (.int p2), .val (.int p3), .val (.int p4), .val .null, .val .null, .val (.ref b1059), .unset, .unset, .unset, .unset, .unset, .unset] [(.int p1)])) _
          refine XS.bipush X1067.here hx rfl (hb hby at_120) ?_
          show Steps p.tables e below (T1067.setTop (mkF m 122 #[.val (.int p1), .val (.int p2), .val (.int p3), .val (.int p4), .val .null, .val .null, .val (.ref b1059), .unset, .unset, .unset, .unset, .unset, .unset] [(.int (8 : Int32)), (.int p1)])) _
          refine XS.iand X1067.here hx rfl (hb hby at_122) rfl ?_
          exact kt
        by_cases hc1085 : (p1 &&& (8 : Int32)) = (0 : Int32)
        · skip
          obtain ⟨T1087, h1087, k1087, X1087, e1087, E1087, A1087, O1087, st1087⟩ := newR X1067 hx hZ hown (tw hw 26 rfl) (tw hw 44 rfl) rfl (g := (mkF m 143 #[.val (.int p1), .val (.int p2), .val (.int p3), .val (.int p4), .val .null, .val .null, .val (.ref b1059), .val (.int (0 : Int32)), .unset, .unset, .unset, .unset, .unset] [(.int (3 : Int32))])) rfl (hb hby at_143) rfl (by decide) (cap := 3) (by decide) (by decide) (by decide) (by decide)
          obtain ⟨b1087, g1087⟩ : ∃ z, z = T1067.heap.size := ⟨_, rfl⟩
          rw [← g1087] at A1087 st1087
          have V1087 : Arv Z h1087 b1087 k1087 (.object "java/lang/String") (3 : Int32) [.null, .null, .null] .null := (Arv.new A1087 (by decide)).pad (pad_rep [] .null 3)
          have lt1087 : @LT.lt Nat _ b1087 h1087.size := V1087.lt
          have K1087 : Keep T1067.heap h1087 [] := (Keep.refl _ _).ext E1087
          have sz7_K1087 := K1087.1
          obtain ⟨cl1088, Ar1088, q1088, S1088, Nn1088, H1088, G1088⟩ := V1087
          obtain ⟨T1089, h1089, X1089, e1089, W1089, st1089⟩ := stR X1087 hx hZ e1087 Ar1088 (j := (0 : Int32)) (inb_of S1088 ⟨by decide, by decide⟩) rfl (Or.inl rfl) (g := (mkF m 150 #[.val (.int p1), .val (.int p2), .val (.int p3), .val (.int p4), .val .null, .val .null, .val (.ref b1059), .val (.int (0 : Int32)), .unset, .unset, .unset, .unset, .unset] [.null, (.int (0 : Int32)), (.ref b1087), (.ref b1087)])) rfl rfl (hb hby at_150)
          have V1089 : Arv Z h1089 b1087 k1087 (.object "java/lang/String") (3 : Int32) [.null, .null, .null] .null := Arv.set Ar1088 q1088 S1088 Nn1088 H1088 G1088 rfl W1089 0 rfl (Nat.le_of_ble_eq_true rfl)
          have K1089 := Keep.of_wr W1089
          have N1089 := Fr.snoc X1089 N1067 (by omega : @LE.le Nat _ n0 b1087)
          have sz8_K1089 := K1089.1
          obtain ⟨cl1090, Ar1090, q1090, S1090, Nn1090, H1090, G1090⟩ := V1089
          obtain ⟨T1091, h1091, X1091, e1091, W1091, st1091⟩ := stR X1089 hx hZ e1089 Ar1090 (j := (1 : Int32)) (inb_of S1090 ⟨by decide, by decide⟩) rfl (Or.inl rfl) (g := (mkF m 155 #[.val (.int p1), .val (.int p2), .val (.int p3), .val (.int p4), .val .null, .val .null, .val (.ref b1059), .val (.int (0 : Int32)), .unset, .unset, .unset, .unset, .unset] [.null, (.int (1 : Int32)), (.ref b1087), (.ref b1087)])) rfl rfl (hb hby at_155)
          have V1091 : Arv Z h1091 b1087 k1087 (.object "java/lang/String") (3 : Int32) [.null, .null, .null] .null := Arv.set Ar1090 q1090 S1090 Nn1090 H1090 G1090 rfl W1091 1 rfl (Nat.le_of_ble_eq_true rfl)
          have K1091 := Keep.of_wr W1091
          have N1091 := Fr.snoc X1091 N1089 (by omega : @LE.le Nat _ n0 b1087)
          have sz9_K1091 := K1091.1
          obtain ⟨cl1092, Ar1092, q1092, S1092, Nn1092, H1092, G1092⟩ := V1091
          have C1093 := E1067.keep K1087
          have C1094 := C1093.keep K1089
          have C1095 := C1094.keep K1091
          obtain ⟨T1096, h1096, X1096, e1096, W1096, st1096⟩ := stR X1091 hx hZ e1091 Ar1092 (j := (2 : Int32)) (inb_of S1092 ⟨by decide, by decide⟩) rfl (Sto.ofV Ar1092 q1092 O1087 (Ins.self C1095)) (g := (mkF m 160 #[.val (.int p1), .val (.int p2), .val (.int p3), .val (.int p4), .val .null, .val .null, .val (.ref b1059), .val (.int (0 : Int32)), .unset, .unset, .unset, .unset, .unset] [(.ref b1059), (.int (2 : Int32)), (.ref b1087), (.ref b1087)])) rfl rfl (hb hby at_160)
          have V1096 : Arv Z h1096 b1087 k1087 (.object "java/lang/String") (3 : Int32) [.null, .null, (.ref b1059)] .null := Arv.set Ar1092 q1092 S1092 Nn1092 H1092 G1092 rfl W1096 2 rfl (Nat.le_of_ble_eq_true rfl)
          have K1096 := Keep.of_wr W1096
          have N1096 := Fr.snoc X1096 N1091 (by omega : @LE.le Nat _ n0 b1087)
          have sz10_K1096 := K1096.1
          obtain ⟨T1097, h1097, X1097, e1097, E1097, A1097, D1097, -, st1097⟩ := newO X1096 hx hZ hown (tw hw 45 rfl) (tw hw 46 rfl) (tw hw 47 rfl) e1096 (g := (mkF m 163 #[.val (.int p1), .val (.int p2), .val (.int p3), .val (.int p4), .val .null, .val .null, .val (.ref b1059), .val (.int (0 : Int32)), .val (.ref b1087), .unset, .unset, .unset, .unset] [])) rfl (hb hby at_163) (by decide) (by decide)
          obtain ⟨b1097, g1097⟩ : ∃ z, z = h1096.size := ⟨_, rfl⟩
          rw [← g1097] at A1097 D1097 st1097
          have lt1097 : @LT.lt Nat _ b1097 h1097.size := A1097.lt
          have K1097 : Keep h1096 h1097 [] := (Keep.refl _ _).ext E1097
          have sz11_K1097 := K1097.1
          have F1097_loc : Fld Z h1097 b1097 "com/example/links_to_sitemap/linkstositemap/SitemapFileWriter$Entry" "loc" "Ljava/lang/String;" .null := D1097 (Or.inr (tw hw 56 rfl)) (ty := (.object "java/lang/String")) (by decide)
          have F1097_fields : Fld Z h1097 b1097 "com/example/links_to_sitemap/linkstositemap/SitemapFileWriter$Entry" "fields" "[Ljava/lang/String;" .null := D1097 (Or.inr (tw hw 58 rfl)) (ty := (.array (.object "java/lang/String"))) (by decide)
          obtain ⟨b1098, T1098, h1098, k1098, X1098, e1098, E1098, hS1098, hk1098, hZ1098, hown1098, st1098⟩ := ldcS (s := s) (vm0 := s.vm) X1097 hx hZ hown (tw hw 48 rfl) wStr e1097 hS0 (by omega) (g := (mkF m 167 #[.val (.int p1), .val (.int p2), .val (.int p3), .val (.int p4), .val .null, .val .null, .val (.ref b1059), .val (.int (0 : Int32)), .val (.ref b1087), .unset, .unset, .unset, .unset] [(.ref b1097), (.ref b1097)])) rfl (hb hby at_167) (n := 80) (by decide) (by decide) (by decide) (by decide)
          have K1098 : Keep h1097 h1098 [] := (Keep.refl _ _).ext E1098
          have sz12_K1098 := K1098.1
          have C1100 := A1097.keep K1098
          have C1101 := F1097_loc.keep K1098 nin0
          have C1102 := F1097_fields.keep K1098 nin0
          have O1103 : Old Z n0 T1067.heap := O1084.keep K1067 (allS (by omega) (all0))
          have O1104 : Old Z n0 h1087 := O1103.keep K1087 all0
          have O1105 : Old Z n0 h1089 := O1104.keep K1089 (allS (by omega) (all0))
          have O1106 : Old Z n0 h1091 := O1105.keep K1091 (allS (by omega) (all0))
          have O1107 : Old Z n0 h1096 := O1106.keep K1096 (allS (by omega) (all0))
          have O1108 : Old Z n0 h1097 := O1107.keep K1097 all0
          have O1109 : Old Z n0 h1098 := O1108.keep K1098 all0
          obtain ⟨_, _, ⟨T1099, L1099, k1099, n1099⟩, -, X1099, ⟨Lc1099, hQ1099, l1099, y1099, z1099⟩, st1099⟩ := X1098.specialBack hx (y := (⟨"com/example/links_to_sitemap/linkstositemap/SitemapFileWriter$Entry", "<init>", "(Ljava/lang/String;[Ljava/lang/String;)V"⟩ : MethodName)) rfl hown1098 (mvT hZ1098 (tw hw 51 rfl)) (mvT hZ1098 (tw hw 52 rfl)) (mvT hZ1098 (tw hw 53 rfl)) (by decide) (backOf (W := 1) (rmEntryA l Z a0 hw [] b1097 b1098 b1087  h1098 n0 O1109 (by omega : @LE.le Nat _ n0 b1097) C1100 C1101 C1102) hZ1098 (tw hw 53 rfl) (tw hw 47 rfl) (by decide) (by decide)) (g := (mkF m 171 #[.val (.int p1), .val (.int p2), .val (.int p3), .val (.int p4), .val .null, .val .null, .val (.ref b1059), .val (.int (0 : Int32)), .val (.ref b1087), .unset, .unset, .unset, .unset] [(.ref b1087), (.ref b1098), (.ref b1097), (.ref b1097)])) rfl (by rw [hml]; rfl) (Steps.refl _) (a := b1097) (argsL := [(.ref b1098), (.ref b1087)]) (rest := [(.ref b1097)]) (lenOf pd_10 rfl) rfl (by show 2 * 0 + _ ≤ _; exact Nat.le_of_eq rfl) (hb hby at_171) (fun _ _ => ⟨rfl, e1098, (by decide : 7 + 0 ≤ _), (by decide : 99 + 0 ≤ _)⟩)
          dsimp only [Pt.U, Pt.locs, Pt.cells, Pt.slots] at X1099 l1099 y1099 z1099 st1099 hQ1099
          subst l1099 y1099 z1099
          obtain ⟨rfl, N1099q, K1099, E1099, F1099⟩ := hQ1099
          have sz13_K1099 := K1099.1
          have N1099 := Fr.app N1096 N1099q
          have O1110 : Old Z n0 T1099.heap := O1109.keep K1099 (allS (by omega) (all0))
          obtain ⟨T1111, X1111, e1111, st1111⟩ := getS2 X1099 hx hZ1098 hown1098 (host := "") (Or.inl (tw hw 59 rfl)) Via.refl rfl (Sta.ext O1110.2 S_0) (g := (mkF m 178 #[.val (.int p1), .val (.int p2), .val (.int p3), .val (.int p4), .val .null, .val .null, .val (.ref b1059), .val (.int (0 : Int32)), .val (.ref b1087), .val (.ref b1097), .unset, .unset, .unset] [(.ref b1097)])) rfl (hb hby at_178)
          have C1113 := V1096.keep K1097 nin0
          have C1114 := C1113.keep K1098 nin0
          have C1115 := C1114.keep K1099 (ninS (by omega : @Ne Nat b1087 b1097) (nin0))
          have C1116 := E_0.keep K1059
          have C1117 := C1116.keep K1060
          have C1118 := C1117.keep K1062
          have C1119 := C1118.keep K1064
          have C1120 := C1119.keep K1066
          have C1121 := C1120.keep K1067
          have C1122 := C1121.keep K1087
          have C1123 := C1122.keep K1089
          have C1124 := C1123.keep K1091
          have C1125 := C1124.keep K1096
          have C1126 := C1125.keep K1097
          have C1127 := C1126.keep K1098
          have C1128 := C1127.keep K1099
          have C1129 := F_0.keep K1059 nin0
          have C1130 := C1129.keep K1060 nin0
          have C1131 := C1130.keep K1062 (ninS (by omega : @Ne Nat lf0 b1060) (nin0))
          have C1132 := C1131.keep K1064 (ninS (by omega : @Ne Nat lf0 b1060) (nin0))
          have C1133 := C1132.keep K1066 (ninS (by omega : @Ne Nat lf0 b1060) (nin0))
          have C1134 := C1133.keep K1067 (ninS (by omega : @Ne Nat lf0 b1059) (nin0))
          have C1135 := C1134.keep K1087 nin0
          have C1136 := C1135.keep K1089 (ninS (by omega : @Ne Nat lf0 b1087) (nin0))
          have C1137 := C1136.keep K1091 (ninS (by omega : @Ne Nat lf0 b1087) (nin0))
          have C1138 := C1137.keep K1096 (ninS (by omega : @Ne Nat lf0 b1087) (nin0))
          have C1139 := C1138.keep K1097 nin0
          have C1140 := C1139.keep K1098 nin0
          have C1141 := C1140.keep K1099 (ninS (by omega : @Ne Nat lf0 b1097) (nin0))
          obtain ⟨cq1112, kq1112, q1112a, q1112b, q1112c⟩ := isOf hZ1098 e1111 E1099
          obtain ⟨_, _, ⟨T1112, L1112, k1112, n1112⟩, -, X1112, ⟨Lc1112, hQ1112, l1112, y1112, z1112⟩, st1112⟩ := X1111.virtualBack hx (y := (⟨"com/example/links_to_sitemap/linkstositemap/SitemapFileWriter$Entry", "field", "(Lcom/example/links_to_sitemap/linkstositemap/LinkField;)Ljava/lang/String;"⟩ : MethodName)) (z := (⟨"com/example/links_to_sitemap/linkstositemap/SitemapFileWriter$Entry", "field", "(Lcom/example/links_to_sitemap/linkstositemap/LinkField;)Ljava/lang/String;"⟩ : MethodName)) hown1098 (mvT hZ1098 (tw hw 62 rfl)) (mvT hZ1098 (tw hw 63 rfl)) (notFace_of_selects (args := #[]) (mvT hZ1098 (tw hw 65 rfl))) (mvT hZ1098 (tw hw 65 rfl)) (mvT hZ1098 (tw hw 64 rfl)) (by decide) (backOf (W := 0) (rmFieldA l Z a0 hw [] b1097 lf0 b1087 k1087 [.null, .null, (.ref b1059)] .null (0 : Int32) T1099.heap n0 O1110 F1099 C1115 C1128 C1141 (by decide) (by decide) rfl rfl) hZ1098 (tw hw 66 rfl) (tw hw 47 rfl) (by decide) (by decide)) q1112a q1112c (g := (mkF m 181 #[.val (.int p1), .val (.int p2), .val (.int p3), .val (.int p4), .val .null, .val .null, .val (.ref b1059), .val (.int (0 : Int32)), .val (.ref b1087), .val (.ref b1097), .unset, .unset, .unset] [(.ref lf0), (.ref b1097)])) rfl (by rw [hml]; rfl) (Steps.refl _) (argsL := [(.ref lf0)]) (rest := []) (lenOf pd_11 rfl) rfl (by show 2 * 0 + _ ≤ _; exact Nat.le_of_eq rfl) (hb hby at_181) (fun _ _ => ⟨rfl, e1111, (by decide : 7 + 0 ≤ _), (by decide : 99 + 0 ≤ _)⟩)
          dsimp only [Pt.U, Pt.locs, Pt.cells, Pt.slots] at X1112 l1112 y1112 z1112 st1112 hQ1112
          subst l1112 y1112 z1112
          obtain ⟨rfl, N1112q, H1112⟩ := hQ1112
          have N1112 := Fr.app N1099 N1112q
          obtain ⟨T1142, X1142, e1142, st1142⟩ := getS2 X1112 hx hZ1098 hown1098 (host := "") (Or.inl (tw hw 76 rfl)) Via.refl H1112 (Sta.ext O1110.2 S_1) (g := (mkF m 188 #[.val (.int p1), .val (.int p2), .val (.int p3), .val (.int p4), .val .null, .val .null, .val (.ref b1059), .val (.int (0 : Int32)), .val (.ref b1087), .val (.ref b1097), .val .null, .unset, .unset] [(.ref b1097)])) rfl (hb hby at_188)
          have C1144 := E_1.keep K1059
          have C1145 := C1144.keep K1060
          have C1146 := C1145.keep K1062
          have C1147 := C1146.keep K1064
          have C1148 := C1147.keep K1066
          have C1149 := C1148.keep K1067
          have C1150 := C1149.keep K1087
          have C1151 := C1150.keep K1089
          have C1152 := C1151.keep K1091
          have C1153 := C1152.keep K1096
          have C1154 := C1153.keep K1097
          have C1155 := C1154.keep K1098
          have C1156 := C1155.keep K1099
          have C1157 := F_1.keep K1059 nin0
          have C1158 := C1157.keep K1060 nin0
          have C1159 := C1158.keep K1062 (ninS (by omega : @Ne Nat lf1 b1060) (nin0))
          have C1160 := C1159.keep K1064 (ninS (by omega : @Ne Nat lf1 b1060) (nin0))
          have C1161 := C1160.keep K1066 (ninS (by omega : @Ne Nat lf1 b1060) (nin0))
          have C1162 := C1161.keep K1067 (ninS (by omega : @Ne Nat lf1 b1059) (nin0))
          have C1163 := C1162.keep K1087 nin0
          have C1164 := C1163.keep K1089 (ninS (by omega : @Ne Nat lf1 b1087) (nin0))
          have C1165 := C1164.keep K1091 (ninS (by omega : @Ne Nat lf1 b1087) (nin0))
          have C1166 := C1165.keep K1096 (ninS (by omega : @Ne Nat lf1 b1087) (nin0))
          have C1167 := C1166.keep K1097 nin0
          have C1168 := C1167.keep K1098 nin0
          have C1169 := C1168.keep K1099 (ninS (by omega : @Ne Nat lf1 b1097) (nin0))
          obtain ⟨cq1143, kq1143, q1143a, q1143b, q1143c⟩ := isOf hZ1098 e1142 E1099
          obtain ⟨_, _, ⟨T1143, L1143, k1143, n1143⟩, -, X1143, ⟨Lc1143, hQ1143, l1143, y1143, z1143⟩, st1143⟩ := X1142.virtualBack hx (y := (⟨"com/example/links_to_sitemap/linkstositemap/SitemapFileWriter$Entry", "field", "(Lcom/example/links_to_sitemap/linkstositemap/LinkField;)Ljava/lang/String;"⟩ : MethodName)) (z := (⟨"com/example/links_to_sitemap/linkstositemap/SitemapFileWriter$Entry", "field", "(Lcom/example/links_to_sitemap/linkstositemap/LinkField;)Ljava/lang/String;"⟩ : MethodName)) hown1098 (mvT hZ1098 (tw hw 62 rfl)) (mvT hZ1098 (tw hw 63 rfl)) (notFace_of_selects (args := #[]) (mvT hZ1098 (tw hw 65 rfl))) (mvT hZ1098 (tw hw 65 rfl)) (mvT hZ1098 (tw hw 64 rfl)) (by decide) (backOf (W := 0) (rmFieldA l Z a0 hw [] b1097 lf1 b1087 k1087 [.null, .null, (.ref b1059)] .null (1 : Int32) T1099.heap n0 O1110 F1099 C1115 C1156 C1169 (by decide) (by decide) rfl rfl) hZ1098 (tw hw 66 rfl) (tw hw 47 rfl) (by decide) (by decide)) q1143a q1143c (g := (mkF m 191 #[.val (.int p1), .val (.int p2), .val (.int p3), .val (.int p4), .val .null, .val .null, .val (.ref b1059), .val (.int (0 : Int32)), .val (.ref b1087), .val (.ref b1097), .val .null, .unset, .unset] [(.ref lf1), (.ref b1097)])) rfl (by rw [hml]; rfl) (Steps.refl _) (argsL := [(.ref lf1)]) (rest := []) (lenOf pd_11 rfl) rfl (by show 2 * 0 + _ ≤ _; exact Nat.le_of_eq rfl) (hb hby at_191) (fun _ _ => ⟨rfl, e1142, (by decide : 7 + 0 ≤ _), (by decide : 99 + 0 ≤ _)⟩)
          dsimp only [Pt.U, Pt.locs, Pt.cells, Pt.slots] at X1143 l1143 y1143 z1143 st1143 hQ1143
          subst l1143 y1143 z1143
          obtain ⟨rfl, N1143q, H1143⟩ := hQ1143
          have N1143 := Fr.app N1112 N1143q
          obtain ⟨T1170, X1170, e1170, st1170⟩ := getS2 X1143 hx hZ1098 hown1098 (host := "") (Or.inl (tw hw 78 rfl)) Via.refl H1143 (Sta.ext O1110.2 S_2) (g := (mkF m 198 #[.val (.int p1), .val (.int p2), .val (.int p3), .val (.int p4), .val .null, .val .null, .val (.ref b1059), .val (.int (0 : Int32)), .val (.ref b1087), .val (.ref b1097), .val .null, .val .null, .unset] [(.ref b1097)])) rfl (hb hby at_198)
          have C1172 := E_2.keep K1059
          have C1173 := C1172.keep K1060
          have C1174 := C1173.keep K1062
          have C1175 := C1174.keep K1064
          have C1176 := C1175.keep K1066
          have C1177 := C1176.keep K1067
          have C1178 := C1177.keep K1087
          have C1179 := C1178.keep K1089
          have C1180 := C1179.keep K1091
          have C1181 := C1180.keep K1096
          have C1182 := C1181.keep K1097
          have C1183 := C1182.keep K1098
          have C1184 := C1183.keep K1099
          have C1185 := F_2.keep K1059 nin0
          have C1186 := C1185.keep K1060 nin0
          have C1187 := C1186.keep K1062 (ninS (by omega : @Ne Nat lf2 b1060) (nin0))
          have C1188 := C1187.keep K1064 (ninS (by omega : @Ne Nat lf2 b1060) (nin0))
          have C1189 := C1188.keep K1066 (ninS (by omega : @Ne Nat lf2 b1060) (nin0))
          have C1190 := C1189.keep K1067 (ninS (by omega : @Ne Nat lf2 b1059) (nin0))
          have C1191 := C1190.keep K1087 nin0
          have C1192 := C1191.keep K1089 (ninS (by omega : @Ne Nat lf2 b1087) (nin0))
          have C1193 := C1192.keep K1091 (ninS (by omega : @Ne Nat lf2 b1087) (nin0))
          have C1194 := C1193.keep K1096 (ninS (by omega : @Ne Nat lf2 b1087) (nin0))
          have C1195 := C1194.keep K1097 nin0
          have C1196 := C1195.keep K1098 nin0
          have C1197 := C1196.keep K1099 (ninS (by omega : @Ne Nat lf2 b1097) (nin0))
          obtain ⟨cq1171, kq1171, q1171a, q1171b, q1171c⟩ := isOf hZ1098 e1170 E1099
          obtain ⟨_, _, ⟨T1171, L1171, k1171, n1171⟩, -, X1171, ⟨Lc1171, hQ1171, l1171, y1171, z1171⟩, st1171⟩ := X1170.virtualBack hx (y := (⟨"com/example/links_to_sitemap/linkstositemap/SitemapFileWriter$Entry", "field", "(Lcom/example/links_to_sitemap/linkstositemap/LinkField;)Ljava/lang/String;"⟩ : MethodName)) (z := (⟨"com/example/links_to_sitemap/linkstositemap/SitemapFileWriter$Entry", "field", "(Lcom/example/links_to_sitemap/linkstositemap/LinkField;)Ljava/lang/String;"⟩ : MethodName)) hown1098 (mvT hZ1098 (tw hw 62 rfl)) (mvT hZ1098 (tw hw 63 rfl)) (notFace_of_selects (args := #[]) (mvT hZ1098 (tw hw 65 rfl))) (mvT hZ1098 (tw hw 65 rfl)) (mvT hZ1098 (tw hw 64 rfl)) (by decide) (backOf (W := 0) (rmFieldA l Z a0 hw [] b1097 lf2 b1087 k1087 [.null, .null, (.ref b1059)] (.ref b1059) (2 : Int32) T1099.heap n0 O1110 F1099 C1115 C1184 C1197 (by decide) (by decide) rfl rfl) hZ1098 (tw hw 66 rfl) (tw hw 47 rfl) (by decide) (by decide)) q1171a q1171c (g := (mkF m 201 #[.val (.int p1), .val (.int p2), .val (.int p3), .val (.int p4), .val .null, .val .null, .val (.ref b1059), .val (.int (0 : Int32)), .val (.ref b1087), .val (.ref b1097), .val .null, .val .null, .unset] [(.ref lf2), (.ref b1097)])) rfl (by rw [hml]; rfl) (Steps.refl _) (argsL := [(.ref lf2)]) (rest := []) (lenOf pd_11 rfl) rfl (by show 2 * 0 + _ ≤ _; exact Nat.le_of_eq rfl) (hb hby at_201) (fun _ _ => ⟨rfl, e1170, (by decide : 7 + 0 ≤ _), (by decide : 99 + 0 ≤ _)⟩)
          dsimp only [Pt.U, Pt.locs, Pt.cells, Pt.slots] at X1171 l1171 y1171 z1171 st1171 hQ1171
          subst l1171 y1171 z1171
          obtain ⟨rfl, N1171q, H1171⟩ := hQ1171
          have N1171 := Fr.app N1143 N1171q
          obtain ⟨_, _, ⟨T1198, L1198, k1198, n1198⟩, -, X1198, ⟨Lc1198, hQ1198, l1198, y1198, z1198⟩, st1198⟩ := Jvm.LawKit.callS X1171 hx (y := (⟨"com/example/links_to_sitemap/linkstositemap/EntryFieldPinLaw", "same", "(Ljava/lang/String;Ljava/lang/String;)Z"⟩ : MethodName)) hown1098 (mvT hZ1098 (tw hw 80 rfl)) (mvT hZ1098 (tw hw 81 rfl)) (mvT hZ1098 (tw hw 82 rfl)) (mvT hZ1098 (tw hw 83 rfl)) (by decide) (backOf (W := 0) (rmSameN l Z a0 hw []   T1099.heap n0 O1110 ) hZ1098 (tw hw 83 rfl) (tw hw 82 rfl) (by decide) (by decide)) (g := (mkF m 236 #[.val (.int p1), .val (.int p2), .val (.int p3), .val (.int p4), .val .null, .val .null, .val (.ref b1059), .val (.int (0 : Int32)), .val (.ref b1087), .val (.ref b1097), .val .null, .val .null, .val (.ref b1059)] [.null, .null])) rfl (by rw [hml]; rfl) (argsL := [.null, .null]) (rest := []) (lenOf pd_13 rfl) rfl (by show 2 * 0 + _ ≤ _; exact Nat.le_of_eq rfl) (hb hby at_236) (fun _ _ => ⟨rfl, H1171, (by decide : 7 + 0 ≤ _), (by decide : 99 + 0 ≤ _)⟩)
          dsimp only [Pt.U, Pt.locs, Pt.cells, Pt.slots] at X1198 l1198 y1198 z1198 st1198 hQ1198
          subst l1198 y1198 z1198
          obtain ⟨rfl, N1198q, H1198⟩ := hQ1198
          have N1198 := Fr.app N1171 N1198q
          obtain ⟨_, _, ⟨T1199, L1199, k1199, n1199⟩, -, X1199, ⟨Lc1199, hQ1199, l1199, y1199, z1199⟩, st1199⟩ := Jvm.LawKit.callS X1198 hx (y := (⟨"com/example/links_to_sitemap/linkstositemap/EntryFieldPinLaw", "same", "(Ljava/lang/String;Ljava/lang/String;)Z"⟩ : MethodName)) hown1098 (mvT hZ1098 (tw hw 80 rfl)) (mvT hZ1098 (tw hw 81 rfl)) (mvT hZ1098 (tw hw 82 rfl)) (mvT hZ1098 (tw hw 83 rfl)) (by decide) (backOf (W := 0) (rmSameN l Z a0 hw []   T1099.heap n0 O1110 ) hZ1098 (tw hw 83 rfl) (tw hw 82 rfl) (by decide) (by decide)) (g := (mkF m 246 #[.val (.int p1), .val (.int p2), .val (.int p3), .val (.int p4), .val .null, .val .null, .val (.ref b1059), .val (.int (0 : Int32)), .val (.ref b1087), .val (.ref b1097), .val .null, .val .null, .val (.ref b1059)] [.null, .null])) rfl (by rw [hml]; rfl) (argsL := [.null, .null]) (rest := []) (lenOf pd_13 rfl) rfl (by show 2 * 0 + _ ≤ _; exact Nat.le_of_eq rfl) (hb hby at_246) (fun _ _ => ⟨rfl, H1198, (by decide : 7 + 0 ≤ _), (by decide : 99 + 0 ≤ _)⟩)
          dsimp only [Pt.U, Pt.locs, Pt.cells, Pt.slots] at X1199 l1199 y1199 z1199 st1199 hQ1199
          subst l1199 y1199 z1199
          obtain ⟨rfl, N1199q, H1199⟩ := hQ1199
          have N1199 := Fr.app N1198 N1199q
          have C1201 := C1095.keep K1096
          have C1202 := C1201.keep K1097
          have C1203 := C1202.keep K1098
          have C1204 := C1203.keep K1099
          obtain ⟨_, _, ⟨T1200, L1200, k1200, n1200⟩, -, X1200, ⟨Lc1200, hQ1200, l1200, y1200, z1200⟩, st1200⟩ := Jvm.LawKit.callS X1199 hx (y := (⟨"com/example/links_to_sitemap/linkstositemap/EntryFieldPinLaw", "same", "(Ljava/lang/String;Ljava/lang/String;)Z"⟩ : MethodName)) hown1098 (mvT hZ1098 (tw hw 80 rfl)) (mvT hZ1098 (tw hw 81 rfl)) (mvT hZ1098 (tw hw 82 rfl)) (mvT hZ1098 (tw hw 83 rfl)) (by decide) (backOf (W := 0) (rmSameX l Z a0 hw [] b1059  T1099.heap n0 O1110 C1204) hZ1098 (tw hw 83 rfl) (tw hw 82 rfl) (by decide) (by decide)) (g := (mkF m 256 #[.val (.int p1), .val (.int p2), .val (.int p3), .val (.int p4), .val .null, .val .null, .val (.ref b1059), .val (.int (0 : Int32)), .val (.ref b1087), .val (.ref b1097), .val .null, .val .null, .val (.ref b1059)] [(.ref b1059), (.ref b1059)])) rfl (by rw [hml]; rfl) (argsL := [(.ref b1059), (.ref b1059)]) (rest := []) (lenOf pd_13 rfl) rfl (by show 2 * 0 + _ ≤ _; exact Nat.le_of_eq rfl) (hb hby at_256) (fun _ _ => ⟨rfl, H1199, (by decide : 7 + 0 ≤ _), (by decide : 99 + 0 ≤ _)⟩)
          dsimp only [Pt.U, Pt.locs, Pt.cells, Pt.slots] at X1200 l1200 y1200 z1200 st1200 hQ1200
          subst l1200 y1200 z1200
          obtain ⟨rfl, N1200q, H1200⟩ := hQ1200
          have N1200 := Fr.app N1199 N1200q
          obtain ⟨fs, hr, hrun, hended, eR, eW, eI, eS⟩ := Stand.leaveW (s := s) (vm₁ := T1098.vm) X1200 hS1098 (by rw [H1200]; omega) (v := some (.int (1 : Int32))) (fun h => by rw [Bd.returns] at h; cases h)
          refine ⟨_, _, pre1086 _ ?_, hrun, hended, _, _, rfl, ?_, eR, eW, eI, eS.mono (by decide) (by decide)⟩
          · skip
            show Steps p.tables e below (T1067.setTop (mkF m 123 #[.val (.int p1), .val (.int p2), .val (.int p3), .val (.int p4), .val .null, .val .null, .val (.ref b1059), .unset, .unset, .unset, .unset, .unset, .unset] [(.int (p1 &&& (8 : Int32)))])) _
            refine XS.ifYes X1067.here hx rfl (pc0 := 123) (pc' := 130) rfl (hb hby at_123) rfl ((if0 _ _).trans (teq hc1085).1) (by decide) (by decide) ?_
            show Steps p.tables e below (T1067.setTop (mkF m 130 #[.val (.int p1), .val (.int p2), .val (.int p3), .val (.int p4), .val .null, .val .null, .val (.ref b1059), .unset, .unset, .unset, .unset, .unset, .unset] [])) _
            refine XS.iconst X1067.here hx rfl (hb hby at_130) ?_
            show Steps p.tables e below (T1067.setTop (mkF m 131 #[.val (.int p1), .val (.int p2), .val (.int p3), .val (.int p4), .val .null, .val .null, .val (.ref b1059), .unset, .unset, .unset, .unset, .unset, .unset] [(.int (0 : Int32))])) _
            refine XS.istore X1067.here hx rfl (hb hby at_131) rfl (l' := #[.val (.int p1), .val (.int p2), .val (.int p3), .val (.int p4), .val .null, .val .null, .val (.ref b1059), .val (.int (0 : Int32)), .unset, .unset, .unset, .unset, .unset]) rfl ?_
            show Steps p.tables e below (T1067.setTop (mkF m 133 #[.val (.int p1), .val (.int p2), .val (.int p3), .val (.int p4), .val .null, .val .null, .val (.ref b1059), .val (.int (0 : Int32)), .unset, .unset, .unset, .unset, .unset] [])) _
            refine XS.iload X1067.here hx rfl (hb hby at_133) rfl ?_
            show Steps p.tables e below (T1067.setTop (mkF m 135 #[.val (.int p1), .val (.int p2), .val (.int p3), .val (.int p4), .val .null, .val .null, .val (.ref b1059), .val (.int (0 : Int32)), .unset, .unset, .unset, .unset, .unset] [(.int (0 : Int32))])) _
            refine XS.ifYes X1067.here hx rfl (pc0 := 135) (pc' := 142) rfl (hb hby at_135) rfl ((if0 _ _).trans (teq (by decide : (0 : Int32) = (0 : Int32))).1) (by decide) (by decide) ?_
            show Steps p.tables e below (T1067.setTop (mkF m 142 #[.val (.int p1), .val (.int p2), .val (.int p3), .val (.int p4), .val .null, .val .null, .val (.ref b1059), .val (.int (0 : Int32)), .unset, .unset, .unset, .unset, .unset] [])) _
            refine XS.iconst X1067.here hx rfl (hb hby at_142) ?_
            show Steps p.tables e below (T1067.setTop (mkF m 143 #[.val (.int p1), .val (.int p2), .val (.int p3), .val (.int p4), .val .null, .val .null, .val (.ref b1059), .val (.int (0 : Int32)), .unset, .unset, .unset, .unset, .unset] [(.int (3 : Int32))])) _
            refine st1087 _ ?_
            show Steps p.tables e below (T1087.setTop (mkF m 146 #[.val (.int p1), .val (.int p2), .val (.int p3), .val (.int p4), .val .null, .val .null, .val (.ref b1059), .val (.int (0 : Int32)), .unset, .unset, .unset, .unset, .unset] [(.ref b1087)])) _
            refine XS.dup X1087.here hx rfl (hb hby at_146) rfl rfl ?_
            show Steps p.tables e below (T1087.setTop (mkF m 147 #[.val (.int p1), .val (.int p2), .val (.int p3), .val (.int p4), .val .null, .val .null, .val (.ref b1059), .val (.int (0 : Int32)), .unset, .unset, .unset, .unset, .unset] [(.ref b1087), (.ref b1087)])) _
            refine XS.iconst X1087.here hx rfl (hb hby at_147) ?_
            show Steps p.tables e below (T1087.setTop (mkF m 148 #[.val (.int p1), .val (.int p2), .val (.int p3), .val (.int p4), .val .null, .val .null, .val (.ref b1059), .val (.int (0 : Int32)), .unset, .unset, .unset, .unset, .unset] [(.int (0 : Int32)), (.ref b1087), (.ref b1087)])) _
            refine XS.aload X1087.here hx rfl (hb hby at_148) rfl rfl ?_
            show Steps p.tables e below (T1087.setTop (mkF m 150 #[.val (.int p1), .val (.int p2), .val (.int p3), .val (.int p4), .val .null, .val .null, .val (.ref b1059), .val (.int (0 : Int32)), .unset, .unset, .unset, .unset, .unset] [.null, (.int (0 : Int32)), (.ref b1087), (.ref b1087)])) _
            refine st1089 _ ?_
            show Steps p.tables e below (T1089.setTop (mkF m 151 #[.val (.int p1), .val (.int p2), .val (.int p3), .val (.int p4), .val .null, .val .null, .val (.ref b1059), .val (.int (0 : Int32)), .unset, .unset, .unset, .unset, .unset] [(.ref b1087)])) _
            refine XS.dup X1089.here hx rfl (hb hby at_151) rfl rfl ?_
            show Steps p.tables e below (T1089.setTop (mkF m 152 #[.val (.int p1), .val (.int p2), .val (.int p3), .val (.int p4), .val .null, .val .null, .val (.ref b1059), .val (.int (0 : Int32)), .unset, .unset, .unset, .unset, .unset] [(.ref b1087), (.ref b1087)])) _
            refine XS.iconst X1089.here hx rfl (hb hby at_152) ?_
            show Steps p.tables e below (T1089.setTop (mkF m 153 #[.val (.int p1), .val (.int p2), .val (.int p3), .val (.int p4), .val .null, .val .null, .val (.ref b1059), .val (.int (0 : Int32)), .unset, .unset, .unset, .unset, .unset] [(.int (1 : Int32)), (.ref b1087), (.ref b1087)])) _
            refine XS.aload X1089.here hx rfl (hb hby at_153) rfl rfl ?_
            show Steps p.tables e below (T1089.setTop (mkF m 155 #[.val (.int p1), .val (.int p2), .val (.int p3), .val (.int p4), .val .null, .val .null, .val (.ref b1059), .val (.int (0 : Int32)), .unset, .unset, .unset, .unset, .unset] [.null, (.int (1 : Int32)), (.ref b1087), (.ref b1087)])) _
            refine st1091 _ ?_
            show Steps p.tables e below (T1091.setTop (mkF m 156 #[.val (.int p1), .val (.int p2), .val (.int p3), .val (.int p4), .val .null, .val .null, .val (.ref b1059), .val (.int (0 : Int32)), .unset, .unset, .unset, .unset, .unset] [(.ref b1087)])) _
            refine XS.dup X1091.here hx rfl (hb hby at_156) rfl rfl ?_
            show Steps p.tables e below (T1091.setTop (mkF m 157 #[.val (.int p1), .val (.int p2), .val (.int p3), .val (.int p4), .val .null, .val .null, .val (.ref b1059), .val (.int (0 : Int32)), .unset, .unset, .unset, .unset, .unset] [(.ref b1087), (.ref b1087)])) _
            refine XS.iconst X1091.here hx rfl (hb hby at_157) ?_
            show Steps p.tables e below (T1091.setTop (mkF m 158 #[.val (.int p1), .val (.int p2), .val (.int p3), .val (.int p4), .val .null, .val .null, .val (.ref b1059), .val (.int (0 : Int32)), .unset, .unset, .unset, .unset, .unset] [(.int (2 : Int32)), (.ref b1087), (.ref b1087)])) _
            refine XS.aload X1091.here hx rfl (hb hby at_158) rfl rfl ?_
            show Steps p.tables e below (T1091.setTop (mkF m 160 #[.val (.int p1), .val (.int p2), .val (.int p3), .val (.int p4), .val .null, .val .null, .val (.ref b1059), .val (.int (0 : Int32)), .unset, .unset, .unset, .unset, .unset] [(.ref b1059), (.int (2 : Int32)), (.ref b1087), (.ref b1087)])) _
            refine st1096 _ ?_
            show Steps p.tables e below (T1096.setTop (mkF m 161 #[.val (.int p1), .val (.int p2), .val (.int p3), .val (.int p4), .val .null, .val .null, .val (.ref b1059), .val (.int (0 : Int32)), .unset, .unset, .unset, .unset, .unset] [(.ref b1087)])) _
            refine XS.astore X1096.here hx rfl (hb hby at_161) rfl rfl (l' := #[.val (.int p1), .val (.int p2), .val (.int p3), .val (.int p4), .val .null, .val .null, .val (.ref b1059), .val (.int (0 : Int32)), .val (.ref b1087), .unset, .unset, .unset, .unset]) rfl ?_
            show Steps p.tables e below (T1096.setTop (mkF m 163 #[.val (.int p1), .val (.int p2), .val (.int p3), .val (.int p4), .val .null, .val .null, .val (.ref b1059), .val (.int (0 : Int32)), .val (.ref b1087), .unset, .unset, .unset, .unset] [])) _
            refine st1097 _ ?_
            show Steps p.tables e below (T1097.setTop (mkF m 166 #[.val (.int p1), .val (.int p2), .val (.int p3), .val (.int p4), .val .null, .val .null, .val (.ref b1059), .val (.int (0 : Int32)), .val (.ref b1087), .unset, .unset, .unset, .unset] [(.ref b1097)])) _
            refine XS.dup X1097.here hx rfl (hb hby at_166) rfl rfl ?_
            show Steps p.tables e below (T1097.setTop (mkF m 167 #[.val (.int p1), .val (.int p2), .val (.int p3), .val (.int p4), .val .null, .val .null, .val (.ref b1059), .val (.int (0 : Int32)), .val (.ref b1087), .unset, .unset, .unset, .unset] [(.ref b1097), (.ref b1097)])) _
            refine st1098 _ ?_
            show Steps p.tables e below (T1098.setTop (mkF m 169 #[.val (.int p1), .val (.int p2), .val (.int p3), .val (.int p4), .val .null, .val .null, .val (.ref b1059), .val (.int (0 : Int32)), .val (.ref b1087), .unset, .unset, .unset, .unset] [(.ref b1098), (.ref b1097), (.ref b1097)])) _
            refine XS.aload X1098.here hx rfl (hb hby at_169) rfl rfl ?_
            show Steps p.tables e below (T1098.setTop (mkF m 171 #[.val (.int p1), .val (.int p2), .val (.int p3), .val (.int p4), .val .null, .val .null, .val (.ref b1059), .val (.int (0 : Int32)), .val (.ref b1087), .unset, .unset, .unset, .unset] [(.ref b1087), (.ref b1098), (.ref b1097), (.ref b1097)])) _
            refine st1099.trans ?_
            show Steps p.tables e below (T1099.setTop (mkF m 174 #[.val (.int p1), .val (.int p2), .val (.int p3), .val (.int p4), .val .null, .val .null, .val (.ref b1059), .val (.int (0 : Int32)), .val (.ref b1087), .unset, .unset, .unset, .unset] [(.ref b1097)])) _
            refine XS.astore X1099.here hx rfl (hb hby at_174) rfl rfl (l' := #[.val (.int p1), .val (.int p2), .val (.int p3), .val (.int p4), .val .null, .val .null, .val (.ref b1059), .val (.int (0 : Int32)), .val (.ref b1087), .val (.ref b1097), .unset, .unset, .unset]) rfl ?_
            show Steps p.tables e below (T1099.setTop (mkF m 176 #[.val (.int p1), .val (.int p2), .val (.int p3), .val (.int p4), .val .null, .val .null, .val (.ref b1059), .val (.int (0 : Int32)), .val (.ref b1087), .val (.ref b1097), .unset, .unset, .unset] [])) _
            refine XS.aload X1099.here hx rfl (hb hby at_176) rfl rfl ?_
            show Steps p.tables e below (T1099.setTop (mkF m 178 #[.val (.int p1), .val (.int p2), .val (.int p3), .val (.int p4), .val .null, .val .null, .val (.ref b1059), .val (.int (0 : Int32)), .val (.ref b1087), .val (.ref b1097), .unset, .unset, .unset] [(.ref b1097)])) _
            refine st1111 _ ?_
            show Steps p.tables e below (T1111.setTop (mkF m 181 #[.val (.int p1), .val (.int p2), .val (.int p3), .val (.int p4), .val .null, .val .null, .val (.ref b1059), .val (.int (0 : Int32)), .val (.ref b1087), .val (.ref b1097), .unset, .unset, .unset] [(.ref lf0), (.ref b1097)])) _
            refine st1112.trans ?_
            show Steps p.tables e below (T1112.setTop (mkF m 184 #[.val (.int p1), .val (.int p2), .val (.int p3), .val (.int p4), .val .null, .val .null, .val (.ref b1059), .val (.int (0 : Int32)), .val (.ref b1087), .val (.ref b1097), .unset, .unset, .unset] [.null])) _
            refine XS.astore X1112.here hx rfl (hb hby at_184) rfl rfl (l' := #[.val (.int p1), .val (.int p2), .val (.int p3), .val (.int p4), .val .null, .val .null, .val (.ref b1059), .val (.int (0 : Int32)), .val (.ref b1087), .val (.ref b1097), .val .null, .unset, .unset]) rfl ?_
            show Steps p.tables e below (T1112.setTop (mkF m 186 #[.val (.int p1), .val (.int p2), .val (.int p3), .val (.int p4), .val .null, .val .null, .val (.ref b1059), .val (.int (0 : Int32)), .val (.ref b1087), .val (.ref b1097), .val .null, .unset, .unset] [])) _
            refine XS.aload X1112.here hx rfl (hb hby at_186) rfl rfl ?_
            show Steps p.tables e below (T1112.setTop (mkF m 188 #[.val (.int p1), .val (.int p2), .val (.int p3), .val (.int p4), .val .null, .val .null, .val (.ref b1059), .val (.int (0 : Int32)), .val (.ref b1087), .val (.ref b1097), .val .null, .unset, .unset] [(.ref b1097)])) _
            refine st1142 _ ?_
            show Steps p.tables e below (T1142.setTop (mkF m 191 #[.val (.int p1), .val (.int p2), .val (.int p3), .val (.int p4), .val .null, .val .null, .val (.ref b1059), .val (.int (0 : Int32)), .val (.ref b1087), .val (.ref b1097), .val .null, .unset, .unset] [(.ref lf1), (.ref b1097)])) _
            refine st1143.trans ?_
            show Steps p.tables e below (T1143.setTop (mkF m 194 #[.val (.int p1), .val (.int p2), .val (.int p3), .val (.int p4), .val .null, .val .null, .val (.ref b1059), .val (.int (0 : Int32)), .val (.ref b1087), .val (.ref b1097), .val .null, .unset, .unset] [.null])) _
            refine XS.astore X1143.here hx rfl (hb hby at_194) rfl rfl (l' := #[.val (.int p1), .val (.int p2), .val (.int p3), .val (.int p4), .val .null, .val .null, .val (.ref b1059), .val (.int (0 : Int32)), .val (.ref b1087), .val (.ref b1097), .val .null, .val .null, .unset]) rfl ?_
            show Steps p.tables e below (T1143.setTop (mkF m 196 #[.val (.int p1), .val (.int p2), .val (.int p3), .val (.int p4), .val .null, .val .null, .val (.ref b1059), .val (.int (0 : Int32)), .val (.ref b1087), .val (.ref b1097), .val .null, .val .null, .unset] [])) _
            refine XS.aload X1143.here hx rfl (hb hby at_196) rfl rfl ?_
            show Steps p.tables e below (T1143.setTop (mkF m 198 #[.val (.int p1), .val (.int p2), .val (.int p3), .val (.int p4), .val .null, .val .null, .val (.ref b1059), .val (.int (0 : Int32)), .val (.ref b1087), .val (.ref b1097), .val .null, .val .null, .unset] [(.ref b1097)])) _
            refine st1170 _ ?_
            show Steps p.tables e below (T1170.setTop (mkF m 201 #[.val (.int p1), .val (.int p2), .val (.int p3), .val (.int p4), .val .null, .val .null, .val (.ref b1059), .val (.int (0 : Int32)), .val (.ref b1087), .val (.ref b1097), .val .null, .val .null, .unset] [(.ref lf2), (.ref b1097)])) _
            refine st1171.trans ?_
            show Steps p.tables e below (T1171.setTop (mkF m 204 #[.val (.int p1), .val (.int p2), .val (.int p3), .val (.int p4), .val .null, .val .null, .val (.ref b1059), .val (.int (0 : Int32)), .val (.ref b1087), .val (.ref b1097), .val .null, .val .null, .unset] [(.ref b1059)])) _
            refine XS.astore X1171.here hx rfl (hb hby at_204) rfl rfl (l' := #[.val (.int p1), .val (.int p2), .val (.int p3), .val (.int p4), .val .null, .val .null, .val (.ref b1059), .val (.int (0 : Int32)), .val (.ref b1087), .val (.ref b1097), .val .null, .val .null, .val (.ref b1059)]) rfl ?_
            show Steps p.tables e below (T1171.setTop (mkF m 206 #[.val (.int p1), .val (.int p2), .val (.int p3), .val (.int p4), .val .null, .val .null, .val (.ref b1059), .val (.int (0 : Int32)), .val (.ref b1087), .val (.ref b1097), .val .null, .val .null, .val (.ref b1059)] [])) _
            refine XS.iload X1171.here hx rfl (hb hby at_206) rfl ?_
            show Steps p.tables e below (T1171.setTop (mkF m 208 #[.val (.int p1), .val (.int p2), .val (.int p3), .val (.int p4), .val .null, .val .null, .val (.ref b1059), .val (.int (0 : Int32)), .val (.ref b1087), .val (.ref b1097), .val .null, .val .null, .val (.ref b1059)] [(.int (0 : Int32))])) _
            refine XS.ifYes X1171.here hx rfl (pc0 := 208) (pc' := 232) rfl (hb hby at_208) rfl ((if0 _ _).trans (teq (by decide : (0 : Int32) = (0 : Int32))).1) (by decide) (by decide) ?_
            show Steps p.tables e below (T1171.setTop (mkF m 232 #[.val (.int p1), .val (.int p2), .val (.int p3), .val (.int p4), .val .null, .val .null, .val (.ref b1059), .val (.int (0 : Int32)), .val (.ref b1087), .val (.ref b1097), .val .null, .val .null, .val (.ref b1059)] [])) _
            refine XS.aload X1171.here hx rfl (hb hby at_232) rfl rfl ?_
            show Steps p.tables e below (T1171.setTop (mkF m 234 #[.val (.int p1), .val (.int p2), .val (.int p3), .val (.int p4), .val .null, .val .null, .val (.ref b1059), .val (.int (0 : Int32)), .val (.ref b1087), .val (.ref b1097), .val .null, .val .null, .val (.ref b1059)] [.null])) _
            refine XS.aload X1171.here hx rfl (hb hby at_234) rfl rfl ?_
            show Steps p.tables e below (T1171.setTop (mkF m 236 #[.val (.int p1), .val (.int p2), .val (.int p3), .val (.int p4), .val .null, .val .null, .val (.ref b1059), .val (.int (0 : Int32)), .val (.ref b1087), .val (.ref b1097), .val .null, .val .null, .val (.ref b1059)] [.null, .null])) _
            refine st1198 _ ?_
            show Steps p.tables e below (T1198.setTop (mkF m 239 #[.val (.int p1), .val (.int p2), .val (.int p3), .val (.int p4), .val .null, .val .null, .val (.ref b1059), .val (.int (0 : Int32)), .val (.ref b1087), .val (.ref b1097), .val .null, .val .null, .val (.ref b1059)] [(.int (1 : Int32))])) _
            refine XS.ifNo X1198.here hx rfl (hb hby at_239) rfl ((if0 _ _).trans (feq (by decide : ¬ ((1 : Int32) = (0 : Int32)))).1) ?_
            show Steps p.tables e below (T1198.setTop (mkF m 242 #[.val (.int p1), .val (.int p2), .val (.int p3), .val (.int p4), .val .null, .val .null, .val (.ref b1059), .val (.int (0 : Int32)), .val (.ref b1087), .val (.ref b1097), .val .null, .val .null, .val (.ref b1059)] [])) _
            refine XS.aload X1198.here hx rfl (hb hby at_242) rfl rfl ?_
            show Steps p.tables e below (T1198.setTop (mkF m 244 #[.val (.int p1), .val (.int p2), .val (.int p3), .val (.int p4), .val .null, .val .null, .val (.ref b1059), .val (.int (0 : Int32)), .val (.ref b1087), .val (.ref b1097), .val .null, .val .null, .val (.ref b1059)] [.null])) _
            refine XS.aload X1198.here hx rfl (hb hby at_244) rfl rfl ?_
            show Steps p.tables e below (T1198.setTop (mkF m 246 #[.val (.int p1), .val (.int p2), .val (.int p3), .val (.int p4), .val .null, .val .null, .val (.ref b1059), .val (.int (0 : Int32)), .val (.ref b1087), .val (.ref b1097), .val .null, .val .null, .val (.ref b1059)] [.null, .null])) _
            refine st1199 _ ?_
            show Steps p.tables e below (T1199.setTop (mkF m 249 #[.val (.int p1), .val (.int p2), .val (.int p3), .val (.int p4), .val .null, .val .null, .val (.ref b1059), .val (.int (0 : Int32)), .val (.ref b1087), .val (.ref b1097), .val .null, .val .null, .val (.ref b1059)] [(.int (1 : Int32))])) _
            refine XS.ifNo X1199.here hx rfl (hb hby at_249) rfl ((if0 _ _).trans (feq (by decide : ¬ ((1 : Int32) = (0 : Int32)))).1) ?_
            show Steps p.tables e below (T1199.setTop (mkF m 252 #[.val (.int p1), .val (.int p2), .val (.int p3), .val (.int p4), .val .null, .val .null, .val (.ref b1059), .val (.int (0 : Int32)), .val (.ref b1087), .val (.ref b1097), .val .null, .val .null, .val (.ref b1059)] [])) _
            refine XS.aload X1199.here hx rfl (hb hby at_252) rfl rfl ?_
            show Steps p.tables e below (T1199.setTop (mkF m 254 #[.val (.int p1), .val (.int p2), .val (.int p3), .val (.int p4), .val .null, .val .null, .val (.ref b1059), .val (.int (0 : Int32)), .val (.ref b1087), .val (.ref b1097), .val .null, .val .null, .val (.ref b1059)] [(.ref b1059)])) _
            refine XS.aload X1199.here hx rfl (hb hby at_254) rfl rfl ?_
            show Steps p.tables e below (T1199.setTop (mkF m 256 #[.val (.int p1), .val (.int p2), .val (.int p3), .val (.int p4), .val .null, .val .null, .val (.ref b1059), .val (.int (0 : Int32)), .val (.ref b1087), .val (.ref b1097), .val .null, .val .null, .val (.ref b1059)] [(.ref b1059), (.ref b1059)])) _
            refine st1200 _ ?_
            show Steps p.tables e below (T1200.setTop (mkF m 259 #[.val (.int p1), .val (.int p2), .val (.int p3), .val (.int p4), .val .null, .val .null, .val (.ref b1059), .val (.int (0 : Int32)), .val (.ref b1087), .val (.ref b1097), .val .null, .val .null, .val (.ref b1059)] [(.int (1 : Int32))])) _
            refine XS.ifNo X1200.here hx rfl (hb hby at_259) rfl ((if0 _ _).trans (feq (by decide : ¬ ((1 : Int32) = (0 : Int32)))).1) ?_
            show Steps p.tables e below (T1200.setTop (mkF m 262 #[.val (.int p1), .val (.int p2), .val (.int p3), .val (.int p4), .val .null, .val .null, .val (.ref b1059), .val (.int (0 : Int32)), .val (.ref b1087), .val (.ref b1097), .val .null, .val .null, .val (.ref b1059)] [])) _
            refine XS.iconst X1200.here hx rfl (hb hby at_262) ?_
            show Steps p.tables e below (T1200.setTop (mkF m 263 #[.val (.int p1), .val (.int p2), .val (.int p3), .val (.int p4), .val .null, .val .null, .val (.ref b1059), .val (.int (0 : Int32)), .val (.ref b1087), .val (.ref b1097), .val .null, .val .null, .val (.ref b1059)] [(.int (1 : Int32))])) _
            refine XS.goto X1200.here hx rfl (pc0 := 263) (pc' := 267) rfl (hb hby at_263) (by decide) (by decide) ?_
            show Steps p.tables e below (T1200.setTop (mkF m 267 #[.val (.int p1), .val (.int p2), .val (.int p3), .val (.int p4), .val .null, .val .null, .val (.ref b1059), .val (.int (0 : Int32)), .val (.ref b1087), .val (.ref b1097), .val .null, .val .null, .val (.ref b1059)] [(.int (1 : Int32))])) _
            exact retN X1200 hx (t := .boolean) Bd.returns (by simp) (hb hby at_267) hr
          · show Q_rm0 Z p1 p2 p3 p4 cs lf0 lf1 lf2 h0 n0 _ T1200.heap _
            rw [H1200]
            exact ⟨rfl, N1200⟩
        · skip
          obtain ⟨T1205, h1205, X1205, e1205, E1205, A1205, D1205, -, st1205⟩ := newO X1067 hx hZ hown (tw hw 45 rfl) (tw hw 46 rfl) (tw hw 47 rfl) rfl (g := (mkF m 163 #[.val (.int p1), .val (.int p2), .val (.int p3), .val (.int p4), .val .null, .val .null, .val (.ref b1059), .val (.int (1 : Int32)), .val .null, .unset, .unset, .unset, .unset] [])) rfl (hb hby at_163) (by decide) (by decide)
          obtain ⟨b1205, g1205⟩ : ∃ z, z = T1067.heap.size := ⟨_, rfl⟩
          rw [← g1205] at A1205 D1205 st1205
          have lt1205 : @LT.lt Nat _ b1205 h1205.size := A1205.lt
          have K1205 : Keep T1067.heap h1205 [] := (Keep.refl _ _).ext E1205
          have sz7_K1205 := K1205.1
          have F1205_loc : Fld Z h1205 b1205 "com/example/links_to_sitemap/linkstositemap/SitemapFileWriter$Entry" "loc" "Ljava/lang/String;" .null := D1205 (Or.inr (tw hw 56 rfl)) (ty := (.object "java/lang/String")) (by decide)
          have F1205_fields : Fld Z h1205 b1205 "com/example/links_to_sitemap/linkstositemap/SitemapFileWriter$Entry" "fields" "[Ljava/lang/String;" .null := D1205 (Or.inr (tw hw 58 rfl)) (ty := (.array (.object "java/lang/String"))) (by decide)
          obtain ⟨b1206, T1206, h1206, k1206, X1206, e1206, E1206, hS1206, hk1206, hZ1206, hown1206, st1206⟩ := ldcS (s := s) (vm0 := s.vm) X1205 hx hZ hown (tw hw 48 rfl) wStr e1205 hS0 (by omega) (g := (mkF m 167 #[.val (.int p1), .val (.int p2), .val (.int p3), .val (.int p4), .val .null, .val .null, .val (.ref b1059), .val (.int (1 : Int32)), .val .null, .unset, .unset, .unset, .unset] [(.ref b1205), (.ref b1205)])) rfl (hb hby at_167) (n := 80) (by decide) (by decide) (by decide) (by decide)
          have K1206 : Keep h1205 h1206 [] := (Keep.refl _ _).ext E1206
          have sz8_K1206 := K1206.1
          have C1208 := A1205.keep K1206
          have C1209 := F1205_loc.keep K1206 nin0
          have C1210 := F1205_fields.keep K1206 nin0
          have O1211 : Old Z n0 T1067.heap := O1084.keep K1067 (allS (by omega) (all0))
          have O1212 : Old Z n0 h1205 := O1211.keep K1205 all0
          have O1213 : Old Z n0 h1206 := O1212.keep K1206 all0
          obtain ⟨_, _, ⟨T1207, L1207, k1207, n1207⟩, -, X1207, ⟨Lc1207, hQ1207, l1207, y1207, z1207⟩, st1207⟩ := X1206.specialBack hx (y := (⟨"com/example/links_to_sitemap/linkstositemap/SitemapFileWriter$Entry", "<init>", "(Ljava/lang/String;[Ljava/lang/String;)V"⟩ : MethodName)) rfl hown1206 (mvT hZ1206 (tw hw 51 rfl)) (mvT hZ1206 (tw hw 52 rfl)) (mvT hZ1206 (tw hw 53 rfl)) (by decide) (backOf (W := 1) (rmEntryN l Z a0 hw [] b1205 b1206  h1206 n0 O1213 (by omega : @LE.le Nat _ n0 b1205) C1208 C1209 C1210) hZ1206 (tw hw 53 rfl) (tw hw 47 rfl) (by decide) (by decide)) (g := (mkF m 171 #[.val (.int p1), .val (.int p2), .val (.int p3), .val (.int p4), .val .null, .val .null, .val (.ref b1059), .val (.int (1 : Int32)), .val .null, .unset, .unset, .unset, .unset] [.null, (.ref b1206), (.ref b1205), (.ref b1205)])) rfl (by rw [hml]; rfl) (Steps.refl _) (a := b1205) (argsL := [(.ref b1206), .null]) (rest := [(.ref b1205)]) (lenOf pd_10 rfl) rfl (by show 2 * 0 + _ ≤ _; exact Nat.le_of_eq rfl) (hb hby at_171) (fun _ _ => ⟨rfl, e1206, (by decide : 6 + 0 ≤ _), (by decide : 96 + 0 ≤ _)⟩)
          dsimp only [Pt.U, Pt.locs, Pt.cells, Pt.slots] at X1207 l1207 y1207 z1207 st1207 hQ1207
          subst l1207 y1207 z1207
          obtain ⟨rfl, N1207q, K1207, E1207, F1207⟩ := hQ1207
          have sz9_K1207 := K1207.1
          have N1207 := Fr.app N1067 N1207q
          have O1214 : Old Z n0 T1207.heap := O1213.keep K1207 (allS (by omega) (all0))
          obtain ⟨T1215, X1215, e1215, st1215⟩ := getS2 X1207 hx hZ1206 hown1206 (host := "") (Or.inl (tw hw 59 rfl)) Via.refl rfl (Sta.ext O1214.2 S_0) (g := (mkF m 178 #[.val (.int p1), .val (.int p2), .val (.int p3), .val (.int p4), .val .null, .val .null, .val (.ref b1059), .val (.int (1 : Int32)), .val .null, .val (.ref b1205), .unset, .unset, .unset] [(.ref b1205)])) rfl (hb hby at_178)
          obtain ⟨cq1216, kq1216, q1216a, q1216b, q1216c⟩ := isOf hZ1206 e1215 E1207
          obtain ⟨_, _, ⟨T1216, L1216, k1216, n1216⟩, -, X1216, ⟨Lc1216, hQ1216, l1216, y1216, z1216⟩, st1216⟩ := X1215.virtualBack hx (y := (⟨"com/example/links_to_sitemap/linkstositemap/SitemapFileWriter$Entry", "field", "(Lcom/example/links_to_sitemap/linkstositemap/LinkField;)Ljava/lang/String;"⟩ : MethodName)) (z := (⟨"com/example/links_to_sitemap/linkstositemap/SitemapFileWriter$Entry", "field", "(Lcom/example/links_to_sitemap/linkstositemap/LinkField;)Ljava/lang/String;"⟩ : MethodName)) hown1206 (mvT hZ1206 (tw hw 62 rfl)) (mvT hZ1206 (tw hw 63 rfl)) (notFace_of_selects (args := #[]) (mvT hZ1206 (tw hw 65 rfl))) (mvT hZ1206 (tw hw 65 rfl)) (mvT hZ1206 (tw hw 64 rfl)) (by decide) (backOf (W := 0) (rmFieldN l Z a0 hw [] b1205 lf0  T1207.heap n0 O1214 F1207) hZ1206 (tw hw 66 rfl) (tw hw 47 rfl) (by decide) (by decide)) q1216a q1216c (g := (mkF m 181 #[.val (.int p1), .val (.int p2), .val (.int p3), .val (.int p4), .val .null, .val .null, .val (.ref b1059), .val (.int (1 : Int32)), .val .null, .val (.ref b1205), .unset, .unset, .unset] [(.ref lf0), (.ref b1205)])) rfl (by rw [hml]; rfl) (Steps.refl _) (argsL := [(.ref lf0)]) (rest := []) (lenOf pd_11 rfl) rfl (by show 2 * 0 + _ ≤ _; exact Nat.le_of_eq rfl) (hb hby at_181) (fun _ _ => ⟨rfl, e1215, (by decide : 6 + 0 ≤ _), (by decide : 96 + 0 ≤ _)⟩)
          dsimp only [Pt.U, Pt.locs, Pt.cells, Pt.slots] at X1216 l1216 y1216 z1216 st1216 hQ1216
          subst l1216 y1216 z1216
          obtain ⟨rfl, N1216q, H1216⟩ := hQ1216
          have N1216 := Fr.app N1207 N1216q
          obtain ⟨T1217, X1217, e1217, st1217⟩ := getS2 X1216 hx hZ1206 hown1206 (host := "") (Or.inl (tw hw 76 rfl)) Via.refl H1216 (Sta.ext O1214.2 S_1) (g := (mkF m 188 #[.val (.int p1), .val (.int p2), .val (.int p3), .val (.int p4), .val .null, .val .null, .val (.ref b1059), .val (.int (1 : Int32)), .val .null, .val (.ref b1205), .val .null, .unset, .unset] [(.ref b1205)])) rfl (hb hby at_188)
          obtain ⟨cq1218, kq1218, q1218a, q1218b, q1218c⟩ := isOf hZ1206 e1217 E1207
          obtain ⟨_, _, ⟨T1218, L1218, k1218, n1218⟩, -, X1218, ⟨Lc1218, hQ1218, l1218, y1218, z1218⟩, st1218⟩ := X1217.virtualBack hx (y := (⟨"com/example/links_to_sitemap/linkstositemap/SitemapFileWriter$Entry", "field", "(Lcom/example/links_to_sitemap/linkstositemap/LinkField;)Ljava/lang/String;"⟩ : MethodName)) (z := (⟨"com/example/links_to_sitemap/linkstositemap/SitemapFileWriter$Entry", "field", "(Lcom/example/links_to_sitemap/linkstositemap/LinkField;)Ljava/lang/String;"⟩ : MethodName)) hown1206 (mvT hZ1206 (tw hw 62 rfl)) (mvT hZ1206 (tw hw 63 rfl)) (notFace_of_selects (args := #[]) (mvT hZ1206 (tw hw 65 rfl))) (mvT hZ1206 (tw hw 65 rfl)) (mvT hZ1206 (tw hw 64 rfl)) (by decide) (backOf (W := 0) (rmFieldN l Z a0 hw [] b1205 lf1  T1207.heap n0 O1214 F1207) hZ1206 (tw hw 66 rfl) (tw hw 47 rfl) (by decide) (by decide)) q1218a q1218c (g := (mkF m 191 #[.val (.int p1), .val (.int p2), .val (.int p3), .val (.int p4), .val .null, .val .null, .val (.ref b1059), .val (.int (1 : Int32)), .val .null, .val (.ref b1205), .val .null, .unset, .unset] [(.ref lf1), (.ref b1205)])) rfl (by rw [hml]; rfl) (Steps.refl _) (argsL := [(.ref lf1)]) (rest := []) (lenOf pd_11 rfl) rfl (by show 2 * 0 + _ ≤ _; exact Nat.le_of_eq rfl) (hb hby at_191) (fun _ _ => ⟨rfl, e1217, (by decide : 6 + 0 ≤ _), (by decide : 96 + 0 ≤ _)⟩)
          dsimp only [Pt.U, Pt.locs, Pt.cells, Pt.slots] at X1218 l1218 y1218 z1218 st1218 hQ1218
          subst l1218 y1218 z1218
          obtain ⟨rfl, N1218q, H1218⟩ := hQ1218
          have N1218 := Fr.app N1216 N1218q
          obtain ⟨T1219, X1219, e1219, st1219⟩ := getS2 X1218 hx hZ1206 hown1206 (host := "") (Or.inl (tw hw 78 rfl)) Via.refl H1218 (Sta.ext O1214.2 S_2) (g := (mkF m 198 #[.val (.int p1), .val (.int p2), .val (.int p3), .val (.int p4), .val .null, .val .null, .val (.ref b1059), .val (.int (1 : Int32)), .val .null, .val (.ref b1205), .val .null, .val .null, .unset] [(.ref b1205)])) rfl (hb hby at_198)
          obtain ⟨cq1220, kq1220, q1220a, q1220b, q1220c⟩ := isOf hZ1206 e1219 E1207
          obtain ⟨_, _, ⟨T1220, L1220, k1220, n1220⟩, -, X1220, ⟨Lc1220, hQ1220, l1220, y1220, z1220⟩, st1220⟩ := X1219.virtualBack hx (y := (⟨"com/example/links_to_sitemap/linkstositemap/SitemapFileWriter$Entry", "field", "(Lcom/example/links_to_sitemap/linkstositemap/LinkField;)Ljava/lang/String;"⟩ : MethodName)) (z := (⟨"com/example/links_to_sitemap/linkstositemap/SitemapFileWriter$Entry", "field", "(Lcom/example/links_to_sitemap/linkstositemap/LinkField;)Ljava/lang/String;"⟩ : MethodName)) hown1206 (mvT hZ1206 (tw hw 62 rfl)) (mvT hZ1206 (tw hw 63 rfl)) (notFace_of_selects (args := #[]) (mvT hZ1206 (tw hw 65 rfl))) (mvT hZ1206 (tw hw 65 rfl)) (mvT hZ1206 (tw hw 64 rfl)) (by decide) (backOf (W := 0) (rmFieldN l Z a0 hw [] b1205 lf2  T1207.heap n0 O1214 F1207) hZ1206 (tw hw 66 rfl) (tw hw 47 rfl) (by decide) (by decide)) q1220a q1220c (g := (mkF m 201 #[.val (.int p1), .val (.int p2), .val (.int p3), .val (.int p4), .val .null, .val .null, .val (.ref b1059), .val (.int (1 : Int32)), .val .null, .val (.ref b1205), .val .null, .val .null, .unset] [(.ref lf2), (.ref b1205)])) rfl (by rw [hml]; rfl) (Steps.refl _) (argsL := [(.ref lf2)]) (rest := []) (lenOf pd_11 rfl) rfl (by show 2 * 0 + _ ≤ _; exact Nat.le_of_eq rfl) (hb hby at_201) (fun _ _ => ⟨rfl, e1219, (by decide : 6 + 0 ≤ _), (by decide : 96 + 0 ≤ _)⟩)
          dsimp only [Pt.U, Pt.locs, Pt.cells, Pt.slots] at X1220 l1220 y1220 z1220 st1220 hQ1220
          subst l1220 y1220 z1220
          obtain ⟨rfl, N1220q, H1220⟩ := hQ1220
          have N1220 := Fr.app N1218 N1220q
          obtain ⟨fs, hr, hrun, hended, eR, eW, eI, eS⟩ := Stand.leaveW (s := s) (vm₁ := T1206.vm) X1220 hS1206 (by rw [H1220]; omega) (v := some (.int (1 : Int32))) (fun h => by rw [Bd.returns] at h; cases h)
          refine ⟨_, _, pre1086 _ ?_, hrun, hended, _, _, rfl, ?_, eR, eW, eI, eS.mono (by decide) (by decide)⟩
          · skip
            show Steps p.tables e below (T1067.setTop (mkF m 123 #[.val (.int p1), .val (.int p2), .val (.int p3), .val (.int p4), .val .null, .val .null, .val (.ref b1059), .unset, .unset, .unset, .unset, .unset, .unset] [(.int (p1 &&& (8 : Int32)))])) _
            refine XS.ifNo X1067.here hx rfl (hb hby at_123) rfl ((if0 _ _).trans (feq hc1085).1) ?_
            show Steps p.tables e below (T1067.setTop (mkF m 126 #[.val (.int p1), .val (.int p2), .val (.int p3), .val (.int p4), .val .null, .val .null, .val (.ref b1059), .unset, .unset, .unset, .unset, .unset, .unset] [])) _
            refine XS.iconst X1067.here hx rfl (hb hby at_126) ?_
            show Steps p.tables e below (T1067.setTop (mkF m 127 #[.val (.int p1), .val (.int p2), .val (.int p3), .val (.int p4), .val .null, .val .null, .val (.ref b1059), .unset, .unset, .unset, .unset, .unset, .unset] [(.int (1 : Int32))])) _
            refine XS.goto X1067.here hx rfl (pc0 := 127) (pc' := 131) rfl (hb hby at_127) (by decide) (by decide) ?_
            show Steps p.tables e below (T1067.setTop (mkF m 131 #[.val (.int p1), .val (.int p2), .val (.int p3), .val (.int p4), .val .null, .val .null, .val (.ref b1059), .unset, .unset, .unset, .unset, .unset, .unset] [(.int (1 : Int32))])) _
            refine XS.istore X1067.here hx rfl (hb hby at_131) rfl (l' := #[.val (.int p1), .val (.int p2), .val (.int p3), .val (.int p4), .val .null, .val .null, .val (.ref b1059), .val (.int (1 : Int32)), .unset, .unset, .unset, .unset, .unset]) rfl ?_
            show Steps p.tables e below (T1067.setTop (mkF m 133 #[.val (.int p1), .val (.int p2), .val (.int p3), .val (.int p4), .val .null, .val .null, .val (.ref b1059), .val (.int (1 : Int32)), .unset, .unset, .unset, .unset, .unset] [])) _
            refine XS.iload X1067.here hx rfl (hb hby at_133) rfl ?_
            show Steps p.tables e below (T1067.setTop (mkF m 135 #[.val (.int p1), .val (.int p2), .val (.int p3), .val (.int p4), .val .null, .val .null, .val (.ref b1059), .val (.int (1 : Int32)), .unset, .unset, .unset, .unset, .unset] [(.int (1 : Int32))])) _
            refine XS.ifNo X1067.here hx rfl (hb hby at_135) rfl ((if0 _ _).trans (feq (by decide : ¬ ((1 : Int32) = (0 : Int32)))).1) ?_
            show Steps p.tables e below (T1067.setTop (mkF m 138 #[.val (.int p1), .val (.int p2), .val (.int p3), .val (.int p4), .val .null, .val .null, .val (.ref b1059), .val (.int (1 : Int32)), .unset, .unset, .unset, .unset, .unset] [])) _
            refine XS.aconstNull X1067.here hx rfl (hb hby at_138) ?_
            show Steps p.tables e below (T1067.setTop (mkF m 139 #[.val (.int p1), .val (.int p2), .val (.int p3), .val (.int p4), .val .null, .val .null, .val (.ref b1059), .val (.int (1 : Int32)), .unset, .unset, .unset, .unset, .unset] [.null])) _
            refine XS.goto X1067.here hx rfl (pc0 := 139) (pc' := 161) rfl (hb hby at_139) (by decide) (by decide) ?_
            show Steps p.tables e below (T1067.setTop (mkF m 161 #[.val (.int p1), .val (.int p2), .val (.int p3), .val (.int p4), .val .null, .val .null, .val (.ref b1059), .val (.int (1 : Int32)), .unset, .unset, .unset, .unset, .unset] [.null])) _
            refine XS.astore X1067.here hx rfl (hb hby at_161) rfl rfl (l' := #[.val (.int p1), .val (.int p2), .val (.int p3), .val (.int p4), .val .null, .val .null, .val (.ref b1059), .val (.int (1 : Int32)), .val .null, .unset, .unset, .unset, .unset]) rfl ?_
            show Steps p.tables e below (T1067.setTop (mkF m 163 #[.val (.int p1), .val (.int p2), .val (.int p3), .val (.int p4), .val .null, .val .null, .val (.ref b1059), .val (.int (1 : Int32)), .val .null, .unset, .unset, .unset, .unset] [])) _
            refine st1205 _ ?_
            show Steps p.tables e below (T1205.setTop (mkF m 166 #[.val (.int p1), .val (.int p2), .val (.int p3), .val (.int p4), .val .null, .val .null, .val (.ref b1059), .val (.int (1 : Int32)), .val .null, .unset, .unset, .unset, .unset] [(.ref b1205)])) _
            refine XS.dup X1205.here hx rfl (hb hby at_166) rfl rfl ?_
            show Steps p.tables e below (T1205.setTop (mkF m 167 #[.val (.int p1), .val (.int p2), .val (.int p3), .val (.int p4), .val .null, .val .null, .val (.ref b1059), .val (.int (1 : Int32)), .val .null, .unset, .unset, .unset, .unset] [(.ref b1205), (.ref b1205)])) _
            refine st1206 _ ?_
            show Steps p.tables e below (T1206.setTop (mkF m 169 #[.val (.int p1), .val (.int p2), .val (.int p3), .val (.int p4), .val .null, .val .null, .val (.ref b1059), .val (.int (1 : Int32)), .val .null, .unset, .unset, .unset, .unset] [(.ref b1206), (.ref b1205), (.ref b1205)])) _
            refine XS.aload X1206.here hx rfl (hb hby at_169) rfl rfl ?_
            show Steps p.tables e below (T1206.setTop (mkF m 171 #[.val (.int p1), .val (.int p2), .val (.int p3), .val (.int p4), .val .null, .val .null, .val (.ref b1059), .val (.int (1 : Int32)), .val .null, .unset, .unset, .unset, .unset] [.null, (.ref b1206), (.ref b1205), (.ref b1205)])) _
            refine st1207.trans ?_
            show Steps p.tables e below (T1207.setTop (mkF m 174 #[.val (.int p1), .val (.int p2), .val (.int p3), .val (.int p4), .val .null, .val .null, .val (.ref b1059), .val (.int (1 : Int32)), .val .null, .unset, .unset, .unset, .unset] [(.ref b1205)])) _
            refine XS.astore X1207.here hx rfl (hb hby at_174) rfl rfl (l' := #[.val (.int p1), .val (.int p2), .val (.int p3), .val (.int p4), .val .null, .val .null, .val (.ref b1059), .val (.int (1 : Int32)), .val .null, .val (.ref b1205), .unset, .unset, .unset]) rfl ?_
            show Steps p.tables e below (T1207.setTop (mkF m 176 #[.val (.int p1), .val (.int p2), .val (.int p3), .val (.int p4), .val .null, .val .null, .val (.ref b1059), .val (.int (1 : Int32)), .val .null, .val (.ref b1205), .unset, .unset, .unset] [])) _
            refine XS.aload X1207.here hx rfl (hb hby at_176) rfl rfl ?_
            show Steps p.tables e below (T1207.setTop (mkF m 178 #[.val (.int p1), .val (.int p2), .val (.int p3), .val (.int p4), .val .null, .val .null, .val (.ref b1059), .val (.int (1 : Int32)), .val .null, .val (.ref b1205), .unset, .unset, .unset] [(.ref b1205)])) _
            refine st1215 _ ?_
            show Steps p.tables e below (T1215.setTop (mkF m 181 #[.val (.int p1), .val (.int p2), .val (.int p3), .val (.int p4), .val .null, .val .null, .val (.ref b1059), .val (.int (1 : Int32)), .val .null, .val (.ref b1205), .unset, .unset, .unset] [(.ref lf0), (.ref b1205)])) _
            refine st1216.trans ?_
            show Steps p.tables e below (T1216.setTop (mkF m 184 #[.val (.int p1), .val (.int p2), .val (.int p3), .val (.int p4), .val .null, .val .null, .val (.ref b1059), .val (.int (1 : Int32)), .val .null, .val (.ref b1205), .unset, .unset, .unset] [.null])) _
            refine XS.astore X1216.here hx rfl (hb hby at_184) rfl rfl (l' := #[.val (.int p1), .val (.int p2), .val (.int p3), .val (.int p4), .val .null, .val .null, .val (.ref b1059), .val (.int (1 : Int32)), .val .null, .val (.ref b1205), .val .null, .unset, .unset]) rfl ?_
            show Steps p.tables e below (T1216.setTop (mkF m 186 #[.val (.int p1), .val (.int p2), .val (.int p3), .val (.int p4), .val .null, .val .null, .val (.ref b1059), .val (.int (1 : Int32)), .val .null, .val (.ref b1205), .val .null, .unset, .unset] [])) _
            refine XS.aload X1216.here hx rfl (hb hby at_186) rfl rfl ?_
            show Steps p.tables e below (T1216.setTop (mkF m 188 #[.val (.int p1), .val (.int p2), .val (.int p3), .val (.int p4), .val .null, .val .null, .val (.ref b1059), .val (.int (1 : Int32)), .val .null, .val (.ref b1205), .val .null, .unset, .unset] [(.ref b1205)])) _
            refine st1217 _ ?_
            show Steps p.tables e below (T1217.setTop (mkF m 191 #[.val (.int p1), .val (.int p2), .val (.int p3), .val (.int p4), .val .null, .val .null, .val (.ref b1059), .val (.int (1 : Int32)), .val .null, .val (.ref b1205), .val .null, .unset, .unset] [(.ref lf1), (.ref b1205)])) _
            refine st1218.trans ?_
            show Steps p.tables e below (T1218.setTop (mkF m 194 #[.val (.int p1), .val (.int p2), .val (.int p3), .val (.int p4), .val .null, .val .null, .val (.ref b1059), .val (.int (1 : Int32)), .val .null, .val (.ref b1205), .val .null, .unset, .unset] [.null])) _
            refine XS.astore X1218.here hx rfl (hb hby at_194) rfl rfl (l' := #[.val (.int p1), .val (.int p2), .val (.int p3), .val (.int p4), .val .null, .val .null, .val (.ref b1059), .val (.int (1 : Int32)), .val .null, .val (.ref b1205), .val .null, .val .null, .unset]) rfl ?_
            show Steps p.tables e below (T1218.setTop (mkF m 196 #[.val (.int p1), .val (.int p2), .val (.int p3), .val (.int p4), .val .null, .val .null, .val (.ref b1059), .val (.int (1 : Int32)), .val .null, .val (.ref b1205), .val .null, .val .null, .unset] [])) _
            refine XS.aload X1218.here hx rfl (hb hby at_196) rfl rfl ?_
            show Steps p.tables e below (T1218.setTop (mkF m 198 #[.val (.int p1), .val (.int p2), .val (.int p3), .val (.int p4), .val .null, .val .null, .val (.ref b1059), .val (.int (1 : Int32)), .val .null, .val (.ref b1205), .val .null, .val .null, .unset] [(.ref b1205)])) _
            refine st1219 _ ?_
            show Steps p.tables e below (T1219.setTop (mkF m 201 #[.val (.int p1), .val (.int p2), .val (.int p3), .val (.int p4), .val .null, .val .null, .val (.ref b1059), .val (.int (1 : Int32)), .val .null, .val (.ref b1205), .val .null, .val .null, .unset] [(.ref lf2), (.ref b1205)])) _
            refine st1220.trans ?_
            show Steps p.tables e below (T1220.setTop (mkF m 204 #[.val (.int p1), .val (.int p2), .val (.int p3), .val (.int p4), .val .null, .val .null, .val (.ref b1059), .val (.int (1 : Int32)), .val .null, .val (.ref b1205), .val .null, .val .null, .unset] [.null])) _
            refine XS.astore X1220.here hx rfl (hb hby at_204) rfl rfl (l' := #[.val (.int p1), .val (.int p2), .val (.int p3), .val (.int p4), .val .null, .val .null, .val (.ref b1059), .val (.int (1 : Int32)), .val .null, .val (.ref b1205), .val .null, .val .null, .val .null]) rfl ?_
            show Steps p.tables e below (T1220.setTop (mkF m 206 #[.val (.int p1), .val (.int p2), .val (.int p3), .val (.int p4), .val .null, .val .null, .val (.ref b1059), .val (.int (1 : Int32)), .val .null, .val (.ref b1205), .val .null, .val .null, .val .null] [])) _
            refine XS.iload X1220.here hx rfl (hb hby at_206) rfl ?_
            show Steps p.tables e below (T1220.setTop (mkF m 208 #[.val (.int p1), .val (.int p2), .val (.int p3), .val (.int p4), .val .null, .val .null, .val (.ref b1059), .val (.int (1 : Int32)), .val .null, .val (.ref b1205), .val .null, .val .null, .val .null] [(.int (1 : Int32))])) _
            refine XS.ifNo X1220.here hx rfl (hb hby at_208) rfl ((if0 _ _).trans (feq (by decide : ¬ ((1 : Int32) = (0 : Int32)))).1) ?_
            show Steps p.tables e below (T1220.setTop (mkF m 211 #[.val (.int p1), .val (.int p2), .val (.int p3), .val (.int p4), .val .null, .val .null, .val (.ref b1059), .val (.int (1 : Int32)), .val .null, .val (.ref b1205), .val .null, .val .null, .val .null] [])) _
            refine XS.aload X1220.here hx rfl (hb hby at_211) rfl rfl ?_
            show Steps p.tables e below (T1220.setTop (mkF m 213 #[.val (.int p1), .val (.int p2), .val (.int p3), .val (.int p4), .val .null, .val .null, .val (.ref b1059), .val (.int (1 : Int32)), .val .null, .val (.ref b1205), .val .null, .val .null, .val .null] [.null])) _
            refine XS.ifnonnullNo X1220.here hx rfl (hb hby at_213) rfl ?_
            show Steps p.tables e below (T1220.setTop (mkF m 216 #[.val (.int p1), .val (.int p2), .val (.int p3), .val (.int p4), .val .null, .val .null, .val (.ref b1059), .val (.int (1 : Int32)), .val .null, .val (.ref b1205), .val .null, .val .null, .val .null] [])) _
            refine XS.aload X1220.here hx rfl (hb hby at_216) rfl rfl ?_
            show Steps p.tables e below (T1220.setTop (mkF m 218 #[.val (.int p1), .val (.int p2), .val (.int p3), .val (.int p4), .val .null, .val .null, .val (.ref b1059), .val (.int (1 : Int32)), .val .null, .val (.ref b1205), .val .null, .val .null, .val .null] [.null])) _
            refine XS.ifnonnullNo X1220.here hx rfl (hb hby at_218) rfl ?_
            show Steps p.tables e below (T1220.setTop (mkF m 221 #[.val (.int p1), .val (.int p2), .val (.int p3), .val (.int p4), .val .null, .val .null, .val (.ref b1059), .val (.int (1 : Int32)), .val .null, .val (.ref b1205), .val .null, .val .null, .val .null] [])) _
            refine XS.aload X1220.here hx rfl (hb hby at_221) rfl rfl ?_
            show Steps p.tables e below (T1220.setTop (mkF m 223 #[.val (.int p1), .val (.int p2), .val (.int p3), .val (.int p4), .val .null, .val .null, .val (.ref b1059), .val (.int (1 : Int32)), .val .null, .val (.ref b1205), .val .null, .val .null, .val .null] [.null])) _
            refine XS.ifnonnullNo X1220.here hx rfl (hb hby at_223) rfl ?_
            show Steps p.tables e below (T1220.setTop (mkF m 226 #[.val (.int p1), .val (.int p2), .val (.int p3), .val (.int p4), .val .null, .val .null, .val (.ref b1059), .val (.int (1 : Int32)), .val .null, .val (.ref b1205), .val .null, .val .null, .val .null] [])) _
            refine XS.iconst X1220.here hx rfl (hb hby at_226) ?_
            show Steps p.tables e below (T1220.setTop (mkF m 227 #[.val (.int p1), .val (.int p2), .val (.int p3), .val (.int p4), .val .null, .val .null, .val (.ref b1059), .val (.int (1 : Int32)), .val .null, .val (.ref b1205), .val .null, .val .null, .val .null] [(.int (1 : Int32))])) _
            refine XS.goto X1220.here hx rfl (pc0 := 227) (pc' := 231) rfl (hb hby at_227) (by decide) (by decide) ?_
            show Steps p.tables e below (T1220.setTop (mkF m 231 #[.val (.int p1), .val (.int p2), .val (.int p3), .val (.int p4), .val .null, .val .null, .val (.ref b1059), .val (.int (1 : Int32)), .val .null, .val (.ref b1205), .val .null, .val .null, .val .null] [(.int (1 : Int32))])) _
            exact retN X1220 hx (t := .boolean) Bd.returns (by simp) (hb hby at_231) hr
          · show Q_rm0 Z p1 p2 p3 p4 cs lf0 lf1 lf2 h0 n0 _ T1220.heap _
            rw [H1220]
            exact ⟨rfl, N1220⟩
      · skip
        have pre1222 : ∀ t, Steps p.tables e below (s₁.setTop (mkF m 123 #[.val (.int p1), .val (.int p2), .val (.int p3), .val (.int p4), .val .null, .val .null, .val .null, .unset, .unset, .unset, .unset, .unset, .unset] [(.int (p1 &&& (8 : Int32)))])) t → Steps p.tables e below (s₁.setTop (entryFrame m #[(.int p1), (.int p2), (.int p3), (.int p4)] maxLocals)) t := by
          intro t kt
          refine pre1058 _ ?_
          show Steps p.tables e below (s₁.setTop (mkF m 67 #[.val (.int p1), .val (.int p2), .val (.int p3), .val (.int p4), .val .null, .val .null, .unset, .unset, .unset, .unset, .unset, .unset, .unset] [(.int (p1 &&& (4 : Int32)))])) _
          refine XS.ifNo X0.here hx rfl (hb hby at_67) rfl ((if0 _ _).trans (feq hc1057).1) ?_
          show Steps p.tables e below (s₁.setTop (mkF m 70 #[.val (.int p1), .val (.int p2), .val (.int p3), .val (.int p4), .val .null, .val .null, .unset, .unset, .unset, .unset, .unset, .unset, .unset] [])) _
          refine XS.aconstNull X0.here hx rfl (hb hby at_70) ?_
          show Steps p.tables e below (s₁.setTop (mkF m 71 #[.val (.int p1), .val (.int p2), .val (.int p3), .val (.int p4), .val .null, .val .null, .unset, .unset, .unset, .unset, .unset, .unset, .unset] [.null])) _
          refine XS.goto X0.here hx rfl (pc0 := 71) (pc' := 117) rfl (hb hby at_71) (by decide) (by decide) ?_
          show Steps p.tables e below (s₁.setTop (mkF m 117 #[.val (.int p1), .val (.int p2), .val (.int p3), .val (.int p4), .val .null, .val .null, .unset, .unset, .unset, .unset, .unset, .unset, .unset] [.null])) _
          refine XS.astore X0.here hx rfl (hb hby at_117) rfl rfl (l' := #[.val (.int p1), .val (.int p2), .val (.int p3), .val (.int p4), .val .null, .val .null, .val .null, .unset, .unset, .unset, .unset, .unset, .unset]) rfl ?_
          show Steps p.tables e below (s₁.setTop (mkF m 119 #[.val (.int p1), .val (.int p2), .val (.int p3), .val (.int p4), .val .null, .val .null, .val .null, .unset, .unset, .unset, .unset, .unset, .unset] [])) _
          refine XS.iloadN X0.here hx rfl (hb hby at_119) rfl ?_
          show Steps p.tables e below (s₁.setTop (mkF m 120 #[.val (.int p1), .val (.int p2), .val (.int p3), .val (.int p4), .val .null, .val .null, .val .null, .unset, .unset, .unset, .unset, .unset, .unset] [(.int p1)])) _
          refine XS.bipush X0.here hx rfl (hb hby at_120) ?_
          show Steps p.tables e below (s₁.setTop (mkF m 122 #[.val (.int p1), .val (.int p2), .val (.int p3), .val (.int p4), .val .null, .val .null, .val .null, .unset, .unset, .unset, .unset, .unset, .unset] [(.int (8 : Int32)), (.int p1)])) _
          refine XS.iand X0.here hx rfl (hb hby at_122) rfl ?_
          exact kt
        by_cases hc1221 : (p1 &&& (8 : Int32)) = (0 : Int32)
        · skip
          obtain ⟨T1223, h1223, k1223, X1223, e1223, E1223, A1223, O1223, st1223⟩ := newR X0 hx hZ hown (tw hw 26 rfl) (tw hw 44 rfl) e0 (g := (mkF m 143 #[.val (.int p1), .val (.int p2), .val (.int p3), .val (.int p4), .val .null, .val .null, .val .null, .val (.int (0 : Int32)), .unset, .unset, .unset, .unset, .unset] [(.int (3 : Int32))])) rfl (hb hby at_143) rfl (by decide) (cap := 3) (by decide) (by decide) (by decide) (by decide)
          obtain ⟨b1223, g1223⟩ : ∃ z, z = h0.size := ⟨_, rfl⟩
          rw [← g1223] at A1223 st1223
          have V1223 : Arv Z h1223 b1223 k1223 (.object "java/lang/String") (3 : Int32) [.null, .null, .null] .null := (Arv.new A1223 (by decide)).pad (pad_rep [] .null 3)
          have lt1223 : @LT.lt Nat _ b1223 h1223.size := V1223.lt
          have K1223 : Keep h0 h1223 [] := (Keep.refl _ _).ext E1223
          have sz1_K1223 := K1223.1
          obtain ⟨cl1224, Ar1224, q1224, S1224, Nn1224, H1224, G1224⟩ := V1223
          obtain ⟨T1225, h1225, X1225, e1225, W1225, st1225⟩ := stR X1223 hx hZ e1223 Ar1224 (j := (0 : Int32)) (inb_of S1224 ⟨by decide, by decide⟩) rfl (Or.inl rfl) (g := (mkF m 150 #[.val (.int p1), .val (.int p2), .val (.int p3), .val (.int p4), .val .null, .val .null, .val .null, .val (.int (0 : Int32)), .unset, .unset, .unset, .unset, .unset] [.null, (.int (0 : Int32)), (.ref b1223), (.ref b1223)])) rfl rfl (hb hby at_150)
          have V1225 : Arv Z h1225 b1223 k1223 (.object "java/lang/String") (3 : Int32) [.null, .null, .null] .null := Arv.set Ar1224 q1224 S1224 Nn1224 H1224 G1224 rfl W1225 0 rfl (Nat.le_of_ble_eq_true rfl)
          have K1225 := Keep.of_wr W1225
          have N1225 := Fr.snoc X1225 N0 (by omega : @LE.le Nat _ n0 b1223)
          have sz2_K1225 := K1225.1
          obtain ⟨cl1226, Ar1226, q1226, S1226, Nn1226, H1226, G1226⟩ := V1225
          obtain ⟨T1227, h1227, X1227, e1227, W1227, st1227⟩ := stR X1225 hx hZ e1225 Ar1226 (j := (1 : Int32)) (inb_of S1226 ⟨by decide, by decide⟩) rfl (Or.inl rfl) (g := (mkF m 155 #[.val (.int p1), .val (.int p2), .val (.int p3), .val (.int p4), .val .null, .val .null, .val .null, .val (.int (0 : Int32)), .unset, .unset, .unset, .unset, .unset] [.null, (.int (1 : Int32)), (.ref b1223), (.ref b1223)])) rfl rfl (hb hby at_155)
          have V1227 : Arv Z h1227 b1223 k1223 (.object "java/lang/String") (3 : Int32) [.null, .null, .null] .null := Arv.set Ar1226 q1226 S1226 Nn1226 H1226 G1226 rfl W1227 1 rfl (Nat.le_of_ble_eq_true rfl)
          have K1227 := Keep.of_wr W1227
          have N1227 := Fr.snoc X1227 N1225 (by omega : @LE.le Nat _ n0 b1223)
          have sz3_K1227 := K1227.1
          obtain ⟨cl1228, Ar1228, q1228, S1228, Nn1228, H1228, G1228⟩ := V1227
          obtain ⟨T1229, h1229, X1229, e1229, W1229, st1229⟩ := stR X1227 hx hZ e1227 Ar1228 (j := (2 : Int32)) (inb_of S1228 ⟨by decide, by decide⟩) rfl (Or.inl rfl) (g := (mkF m 160 #[.val (.int p1), .val (.int p2), .val (.int p3), .val (.int p4), .val .null, .val .null, .val .null, .val (.int (0 : Int32)), .unset, .unset, .unset, .unset, .unset] [.null, (.int (2 : Int32)), (.ref b1223), (.ref b1223)])) rfl rfl (hb hby at_160)
          have V1229 : Arv Z h1229 b1223 k1223 (.object "java/lang/String") (3 : Int32) [.null, .null, .null] .null := Arv.set Ar1228 q1228 S1228 Nn1228 H1228 G1228 rfl W1229 2 rfl (Nat.le_of_ble_eq_true rfl)
          have K1229 := Keep.of_wr W1229
          have N1229 := Fr.snoc X1229 N1227 (by omega : @LE.le Nat _ n0 b1223)
          have sz4_K1229 := K1229.1
          obtain ⟨T1230, h1230, X1230, e1230, E1230, A1230, D1230, -, st1230⟩ := newO X1229 hx hZ hown (tw hw 45 rfl) (tw hw 46 rfl) (tw hw 47 rfl) e1229 (g := (mkF m 163 #[.val (.int p1), .val (.int p2), .val (.int p3), .val (.int p4), .val .null, .val .null, .val .null, .val (.int (0 : Int32)), .val (.ref b1223), .unset, .unset, .unset, .unset] [])) rfl (hb hby at_163) (by decide) (by decide)
          obtain ⟨b1230, g1230⟩ : ∃ z, z = h1229.size := ⟨_, rfl⟩
          rw [← g1230] at A1230 D1230 st1230
          have lt1230 : @LT.lt Nat _ b1230 h1230.size := A1230.lt
          have K1230 : Keep h1229 h1230 [] := (Keep.refl _ _).ext E1230
          have sz5_K1230 := K1230.1
          have F1230_loc : Fld Z h1230 b1230 "com/example/links_to_sitemap/linkstositemap/SitemapFileWriter$Entry" "loc" "Ljava/lang/String;" .null := D1230 (Or.inr (tw hw 56 rfl)) (ty := (.object "java/lang/String")) (by decide)
          have F1230_fields : Fld Z h1230 b1230 "com/example/links_to_sitemap/linkstositemap/SitemapFileWriter$Entry" "fields" "[Ljava/lang/String;" .null := D1230 (Or.inr (tw hw 58 rfl)) (ty := (.array (.object "java/lang/String"))) (by decide)
          obtain ⟨b1231, T1231, h1231, k1231, X1231, e1231, E1231, hS1231, hk1231, hZ1231, hown1231, st1231⟩ := ldcS (s := s) (vm0 := s.vm) X1230 hx hZ hown (tw hw 48 rfl) wStr e1230 hS0 (by omega) (g := (mkF m 167 #[.val (.int p1), .val (.int p2), .val (.int p3), .val (.int p4), .val .null, .val .null, .val .null, .val (.int (0 : Int32)), .val (.ref b1223), .unset, .unset, .unset, .unset] [(.ref b1230), (.ref b1230)])) rfl (hb hby at_167) (n := 80) (by decide) (by decide) (by decide) (by decide)
          have K1231 : Keep h1230 h1231 [] := (Keep.refl _ _).ext E1231
          have sz6_K1231 := K1231.1
          have C1233 := A1230.keep K1231
          have C1234 := F1230_loc.keep K1231 nin0
          have C1235 := F1230_fields.keep K1231 nin0
          have O1236 : Old Z n0 h1223 := O0.keep K1223 all0
          have O1237 : Old Z n0 h1225 := O1236.keep K1225 (allS (by omega) (all0))
          have O1238 : Old Z n0 h1227 := O1237.keep K1227 (allS (by omega) (all0))
          have O1239 : Old Z n0 h1229 := O1238.keep K1229 (allS (by omega) (all0))
          have O1240 : Old Z n0 h1230 := O1239.keep K1230 all0
          have O1241 : Old Z n0 h1231 := O1240.keep K1231 all0
          obtain ⟨_, _, ⟨T1232, L1232, k1232, n1232⟩, -, X1232, ⟨Lc1232, hQ1232, l1232, y1232, z1232⟩, st1232⟩ := X1231.specialBack hx (y := (⟨"com/example/links_to_sitemap/linkstositemap/SitemapFileWriter$Entry", "<init>", "(Ljava/lang/String;[Ljava/lang/String;)V"⟩ : MethodName)) rfl hown1231 (mvT hZ1231 (tw hw 51 rfl)) (mvT hZ1231 (tw hw 52 rfl)) (mvT hZ1231 (tw hw 53 rfl)) (by decide) (backOf (W := 1) (rmEntryA l Z a0 hw [] b1230 b1231 b1223  h1231 n0 O1241 (by omega : @LE.le Nat _ n0 b1230) C1233 C1234 C1235) hZ1231 (tw hw 53 rfl) (tw hw 47 rfl) (by decide) (by decide)) (g := (mkF m 171 #[.val (.int p1), .val (.int p2), .val (.int p3), .val (.int p4), .val .null, .val .null, .val .null, .val (.int (0 : Int32)), .val (.ref b1223), .unset, .unset, .unset, .unset] [(.ref b1223), (.ref b1231), (.ref b1230), (.ref b1230)])) rfl (by rw [hml]; rfl) (Steps.refl _) (a := b1230) (argsL := [(.ref b1231), (.ref b1223)]) (rest := [(.ref b1230)]) (lenOf pd_10 rfl) rfl (by show 2 * 0 + _ ≤ _; exact Nat.le_of_eq rfl) (hb hby at_171) (fun _ _ => ⟨rfl, e1231, (by decide : 4 + 0 ≤ _), (by decide : 89 + 0 ≤ _)⟩)
          dsimp only [Pt.U, Pt.locs, Pt.cells, Pt.slots] at X1232 l1232 y1232 z1232 st1232 hQ1232
          subst l1232 y1232 z1232
          obtain ⟨rfl, N1232q, K1232, E1232, F1232⟩ := hQ1232
          have sz7_K1232 := K1232.1
          have N1232 := Fr.app N1229 N1232q
          have O1242 : Old Z n0 T1232.heap := O1241.keep K1232 (allS (by omega) (all0))
          obtain ⟨T1243, X1243, e1243, st1243⟩ := getS2 X1232 hx hZ1231 hown1231 (host := "") (Or.inl (tw hw 59 rfl)) Via.refl rfl (Sta.ext O1242.2 S_0) (g := (mkF m 178 #[.val (.int p1), .val (.int p2), .val (.int p3), .val (.int p4), .val .null, .val .null, .val .null, .val (.int (0 : Int32)), .val (.ref b1223), .val (.ref b1230), .unset, .unset, .unset] [(.ref b1230)])) rfl (hb hby at_178)
          have C1245 := V1229.keep K1230 nin0
          have C1246 := C1245.keep K1231 nin0
          have C1247 := C1246.keep K1232 (ninS (by omega : @Ne Nat b1223 b1230) (nin0))
          have C1248 := E_0.keep K1223
          have C1249 := C1248.keep K1225
          have C1250 := C1249.keep K1227
          have C1251 := C1250.keep K1229
          have C1252 := C1251.keep K1230
          have C1253 := C1252.keep K1231
          have C1254 := C1253.keep K1232
          have C1255 := F_0.keep K1223 nin0
          have C1256 := C1255.keep K1225 (ninS (by omega : @Ne Nat lf0 b1223) (nin0))
          have C1257 := C1256.keep K1227 (ninS (by omega : @Ne Nat lf0 b1223) (nin0))
          have C1258 := C1257.keep K1229 (ninS (by omega : @Ne Nat lf0 b1223) (nin0))
          have C1259 := C1258.keep K1230 nin0
          have C1260 := C1259.keep K1231 nin0
          have C1261 := C1260.keep K1232 (ninS (by omega : @Ne Nat lf0 b1230) (nin0))
          obtain ⟨cq1244, kq1244, q1244a, q1244b, q1244c⟩ := isOf hZ1231 e1243 E1232
          obtain ⟨_, _, ⟨T1244, L1244, k1244, n1244⟩, -, X1244, ⟨Lc1244, hQ1244, l1244, y1244, z1244⟩, st1244⟩ := X1243.virtualBack hx (y := (⟨"com/example/links_to_sitemap/linkstositemap/SitemapFileWriter$Entry", "field", "(Lcom/example/links_to_sitemap/linkstositemap/LinkField;)Ljava/lang/String;"⟩ : MethodName)) (z := (⟨"com/example/links_to_sitemap/linkstositemap/SitemapFileWriter$Entry", "field", "(Lcom/example/links_to_sitemap/linkstositemap/LinkField;)Ljava/lang/String;"⟩ : MethodName)) hown1231 (mvT hZ1231 (tw hw 62 rfl)) (mvT hZ1231 (tw hw 63 rfl)) (notFace_of_selects (args := #[]) (mvT hZ1231 (tw hw 65 rfl))) (mvT hZ1231 (tw hw 65 rfl)) (mvT hZ1231 (tw hw 64 rfl)) (by decide) (backOf (W := 0) (rmFieldA l Z a0 hw [] b1230 lf0 b1223 k1223 [.null, .null, .null] .null (0 : Int32) T1232.heap n0 O1242 F1232 C1247 C1254 C1261 (by decide) (by decide) rfl rfl) hZ1231 (tw hw 66 rfl) (tw hw 47 rfl) (by decide) (by decide)) q1244a q1244c (g := (mkF m 181 #[.val (.int p1), .val (.int p2), .val (.int p3), .val (.int p4), .val .null, .val .null, .val .null, .val (.int (0 : Int32)), .val (.ref b1223), .val (.ref b1230), .unset, .unset, .unset] [(.ref lf0), (.ref b1230)])) rfl (by rw [hml]; rfl) (Steps.refl _) (argsL := [(.ref lf0)]) (rest := []) (lenOf pd_11 rfl) rfl (by show 2 * 0 + _ ≤ _; exact Nat.le_of_eq rfl) (hb hby at_181) (fun _ _ => ⟨rfl, e1243, (by decide : 4 + 0 ≤ _), (by decide : 89 + 0 ≤ _)⟩)
          dsimp only [Pt.U, Pt.locs, Pt.cells, Pt.slots] at X1244 l1244 y1244 z1244 st1244 hQ1244
          subst l1244 y1244 z1244
          obtain ⟨rfl, N1244q, H1244⟩ := hQ1244
          have N1244 := Fr.app N1232 N1244q
          obtain ⟨T1262, X1262, e1262, st1262⟩ := getS2 X1244 hx hZ1231 hown1231 (host := "") (Or.inl (tw hw 76 rfl)) Via.refl H1244 (Sta.ext O1242.2 S_1) (g := (mkF m 188 #[.val (.int p1), .val (.int p2), .val (.int p3), .val (.int p4), .val .null, .val .null, .val .null, .val (.int (0 : Int32)), .val (.ref b1223), .val (.ref b1230), .val .null, .unset, .unset] [(.ref b1230)])) rfl (hb hby at_188)
          have C1264 := E_1.keep K1223
          have C1265 := C1264.keep K1225
          have C1266 := C1265.keep K1227
          have C1267 := C1266.keep K1229
          have C1268 := C1267.keep K1230
          have C1269 := C1268.keep K1231
          have C1270 := C1269.keep K1232
          have C1271 := F_1.keep K1223 nin0
          have C1272 := C1271.keep K1225 (ninS (by omega : @Ne Nat lf1 b1223) (nin0))
          have C1273 := C1272.keep K1227 (ninS (by omega : @Ne Nat lf1 b1223) (nin0))
          have C1274 := C1273.keep K1229 (ninS (by omega : @Ne Nat lf1 b1223) (nin0))
          have C1275 := C1274.keep K1230 nin0
          have C1276 := C1275.keep K1231 nin0
          have C1277 := C1276.keep K1232 (ninS (by omega : @Ne Nat lf1 b1230) (nin0))
          obtain ⟨cq1263, kq1263, q1263a, q1263b, q1263c⟩ := isOf hZ1231 e1262 E1232
          obtain ⟨_, _, ⟨T1263, L1263, k1263, n1263⟩, -, X1263, ⟨Lc1263, hQ1263, l1263, y1263, z1263⟩, st1263⟩ := X1262.virtualBack hx (y := (⟨"com/example/links_to_sitemap/linkstositemap/SitemapFileWriter$Entry", "field", "(Lcom/example/links_to_sitemap/linkstositemap/LinkField;)Ljava/lang/String;"⟩ : MethodName)) (z := (⟨"com/example/links_to_sitemap/linkstositemap/SitemapFileWriter$Entry", "field", "(Lcom/example/links_to_sitemap/linkstositemap/LinkField;)Ljava/lang/String;"⟩ : MethodName)) hown1231 (mvT hZ1231 (tw hw 62 rfl)) (mvT hZ1231 (tw hw 63 rfl)) (notFace_of_selects (args := #[]) (mvT hZ1231 (tw hw 65 rfl))) (mvT hZ1231 (tw hw 65 rfl)) (mvT hZ1231 (tw hw 64 rfl)) (by decide) (backOf (W := 0) (rmFieldA l Z a0 hw [] b1230 lf1 b1223 k1223 [.null, .null, .null] .null (1 : Int32) T1232.heap n0 O1242 F1232 C1247 C1270 C1277 (by decide) (by decide) rfl rfl) hZ1231 (tw hw 66 rfl) (tw hw 47 rfl) (by decide) (by decide)) q1263a q1263c (g := (mkF m 191 #[.val (.int p1), .val (.int p2), .val (.int p3), .val (.int p4), .val .null, .val .null, .val .null, .val (.int (0 : Int32)), .val (.ref b1223), .val (.ref b1230), .val .null, .unset, .unset] [(.ref lf1), (.ref b1230)])) rfl (by rw [hml]; rfl) (Steps.refl _) (argsL := [(.ref lf1)]) (rest := []) (lenOf pd_11 rfl) rfl (by show 2 * 0 + _ ≤ _; exact Nat.le_of_eq rfl) (hb hby at_191) (fun _ _ => ⟨rfl, e1262, (by decide : 4 + 0 ≤ _), (by decide : 89 + 0 ≤ _)⟩)
          dsimp only [Pt.U, Pt.locs, Pt.cells, Pt.slots] at X1263 l1263 y1263 z1263 st1263 hQ1263
          subst l1263 y1263 z1263
          obtain ⟨rfl, N1263q, H1263⟩ := hQ1263
          have N1263 := Fr.app N1244 N1263q
          obtain ⟨T1278, X1278, e1278, st1278⟩ := getS2 X1263 hx hZ1231 hown1231 (host := "") (Or.inl (tw hw 78 rfl)) Via.refl H1263 (Sta.ext O1242.2 S_2) (g := (mkF m 198 #[.val (.int p1), .val (.int p2), .val (.int p3), .val (.int p4), .val .null, .val .null, .val .null, .val (.int (0 : Int32)), .val (.ref b1223), .val (.ref b1230), .val .null, .val .null, .unset] [(.ref b1230)])) rfl (hb hby at_198)
          have C1280 := E_2.keep K1223
          have C1281 := C1280.keep K1225
          have C1282 := C1281.keep K1227
          have C1283 := C1282.keep K1229
          have C1284 := C1283.keep K1230
          have C1285 := C1284.keep K1231
          have C1286 := C1285.keep K1232
          have C1287 := F_2.keep K1223 nin0
          have C1288 := C1287.keep K1225 (ninS (by omega : @Ne Nat lf2 b1223) (nin0))
          have C1289 := C1288.keep K1227 (ninS (by omega : @Ne Nat lf2 b1223) (nin0))
          have C1290 := C1289.keep K1229 (ninS (by omega : @Ne Nat lf2 b1223) (nin0))
          have C1291 := C1290.keep K1230 nin0
          have C1292 := C1291.keep K1231 nin0
          have C1293 := C1292.keep K1232 (ninS (by omega : @Ne Nat lf2 b1230) (nin0))
          obtain ⟨cq1279, kq1279, q1279a, q1279b, q1279c⟩ := isOf hZ1231 e1278 E1232
          obtain ⟨_, _, ⟨T1279, L1279, k1279, n1279⟩, -, X1279, ⟨Lc1279, hQ1279, l1279, y1279, z1279⟩, st1279⟩ := X1278.virtualBack hx (y := (⟨"com/example/links_to_sitemap/linkstositemap/SitemapFileWriter$Entry", "field", "(Lcom/example/links_to_sitemap/linkstositemap/LinkField;)Ljava/lang/String;"⟩ : MethodName)) (z := (⟨"com/example/links_to_sitemap/linkstositemap/SitemapFileWriter$Entry", "field", "(Lcom/example/links_to_sitemap/linkstositemap/LinkField;)Ljava/lang/String;"⟩ : MethodName)) hown1231 (mvT hZ1231 (tw hw 62 rfl)) (mvT hZ1231 (tw hw 63 rfl)) (notFace_of_selects (args := #[]) (mvT hZ1231 (tw hw 65 rfl))) (mvT hZ1231 (tw hw 65 rfl)) (mvT hZ1231 (tw hw 64 rfl)) (by decide) (backOf (W := 0) (rmFieldA l Z a0 hw [] b1230 lf2 b1223 k1223 [.null, .null, .null] .null (2 : Int32) T1232.heap n0 O1242 F1232 C1247 C1286 C1293 (by decide) (by decide) rfl rfl) hZ1231 (tw hw 66 rfl) (tw hw 47 rfl) (by decide) (by decide)) q1279a q1279c (g := (mkF m 201 #[.val (.int p1), .val (.int p2), .val (.int p3), .val (.int p4), .val .null, .val .null, .val .null, .val (.int (0 : Int32)), .val (.ref b1223), .val (.ref b1230), .val .null, .val .null, .unset] [(.ref lf2), (.ref b1230)])) rfl (by rw [hml]; rfl) (Steps.refl _) (argsL := [(.ref lf2)]) (rest := []) (lenOf pd_11 rfl) rfl (by show 2 * 0 + _ ≤ _; exact Nat.le_of_eq rfl) (hb hby at_201) (fun _ _ => ⟨rfl, e1278, (by decide : 4 + 0 ≤ _), (by decide : 89 + 0 ≤ _)⟩)
          dsimp only [Pt.U, Pt.locs, Pt.cells, Pt.slots] at X1279 l1279 y1279 z1279 st1279 hQ1279
          subst l1279 y1279 z1279
          obtain ⟨rfl, N1279q, H1279⟩ := hQ1279
          have N1279 := Fr.app N1263 N1279q
          obtain ⟨_, _, ⟨T1294, L1294, k1294, n1294⟩, -, X1294, ⟨Lc1294, hQ1294, l1294, y1294, z1294⟩, st1294⟩ := Jvm.LawKit.callS X1279 hx (y := (⟨"com/example/links_to_sitemap/linkstositemap/EntryFieldPinLaw", "same", "(Ljava/lang/String;Ljava/lang/String;)Z"⟩ : MethodName)) hown1231 (mvT hZ1231 (tw hw 80 rfl)) (mvT hZ1231 (tw hw 81 rfl)) (mvT hZ1231 (tw hw 82 rfl)) (mvT hZ1231 (tw hw 83 rfl)) (by decide) (backOf (W := 0) (rmSameN l Z a0 hw []   T1232.heap n0 O1242 ) hZ1231 (tw hw 83 rfl) (tw hw 82 rfl) (by decide) (by decide)) (g := (mkF m 236 #[.val (.int p1), .val (.int p2), .val (.int p3), .val (.int p4), .val .null, .val .null, .val .null, .val (.int (0 : Int32)), .val (.ref b1223), .val (.ref b1230), .val .null, .val .null, .val .null] [.null, .null])) rfl (by rw [hml]; rfl) (argsL := [.null, .null]) (rest := []) (lenOf pd_13 rfl) rfl (by show 2 * 0 + _ ≤ _; exact Nat.le_of_eq rfl) (hb hby at_236) (fun _ _ => ⟨rfl, H1279, (by decide : 4 + 0 ≤ _), (by decide : 89 + 0 ≤ _)⟩)
          dsimp only [Pt.U, Pt.locs, Pt.cells, Pt.slots] at X1294 l1294 y1294 z1294 st1294 hQ1294
          subst l1294 y1294 z1294
          obtain ⟨rfl, N1294q, H1294⟩ := hQ1294
          have N1294 := Fr.app N1279 N1294q
          obtain ⟨_, _, ⟨T1295, L1295, k1295, n1295⟩, -, X1295, ⟨Lc1295, hQ1295, l1295, y1295, z1295⟩, st1295⟩ := Jvm.LawKit.callS X1294 hx (y := (⟨"com/example/links_to_sitemap/linkstositemap/EntryFieldPinLaw", "same", "(Ljava/lang/String;Ljava/lang/String;)Z"⟩ : MethodName)) hown1231 (mvT hZ1231 (tw hw 80 rfl)) (mvT hZ1231 (tw hw 81 rfl)) (mvT hZ1231 (tw hw 82 rfl)) (mvT hZ1231 (tw hw 83 rfl)) (by decide) (backOf (W := 0) (rmSameN l Z a0 hw []   T1232.heap n0 O1242 ) hZ1231 (tw hw 83 rfl) (tw hw 82 rfl) (by decide) (by decide)) (g := (mkF m 246 #[.val (.int p1), .val (.int p2), .val (.int p3), .val (.int p4), .val .null, .val .null, .val .null, .val (.int (0 : Int32)), .val (.ref b1223), .val (.ref b1230), .val .null, .val .null, .val .null] [.null, .null])) rfl (by rw [hml]; rfl) (argsL := [.null, .null]) (rest := []) (lenOf pd_13 rfl) rfl (by show 2 * 0 + _ ≤ _; exact Nat.le_of_eq rfl) (hb hby at_246) (fun _ _ => ⟨rfl, H1294, (by decide : 4 + 0 ≤ _), (by decide : 89 + 0 ≤ _)⟩)
          dsimp only [Pt.U, Pt.locs, Pt.cells, Pt.slots] at X1295 l1295 y1295 z1295 st1295 hQ1295
          subst l1295 y1295 z1295
          obtain ⟨rfl, N1295q, H1295⟩ := hQ1295
          have N1295 := Fr.app N1294 N1295q
          obtain ⟨_, _, ⟨T1296, L1296, k1296, n1296⟩, -, X1296, ⟨Lc1296, hQ1296, l1296, y1296, z1296⟩, st1296⟩ := Jvm.LawKit.callS X1295 hx (y := (⟨"com/example/links_to_sitemap/linkstositemap/EntryFieldPinLaw", "same", "(Ljava/lang/String;Ljava/lang/String;)Z"⟩ : MethodName)) hown1231 (mvT hZ1231 (tw hw 80 rfl)) (mvT hZ1231 (tw hw 81 rfl)) (mvT hZ1231 (tw hw 82 rfl)) (mvT hZ1231 (tw hw 83 rfl)) (by decide) (backOf (W := 0) (rmSameN l Z a0 hw []   T1232.heap n0 O1242 ) hZ1231 (tw hw 83 rfl) (tw hw 82 rfl) (by decide) (by decide)) (g := (mkF m 256 #[.val (.int p1), .val (.int p2), .val (.int p3), .val (.int p4), .val .null, .val .null, .val .null, .val (.int (0 : Int32)), .val (.ref b1223), .val (.ref b1230), .val .null, .val .null, .val .null] [.null, .null])) rfl (by rw [hml]; rfl) (argsL := [.null, .null]) (rest := []) (lenOf pd_13 rfl) rfl (by show 2 * 0 + _ ≤ _; exact Nat.le_of_eq rfl) (hb hby at_256) (fun _ _ => ⟨rfl, H1295, (by decide : 4 + 0 ≤ _), (by decide : 89 + 0 ≤ _)⟩)
          dsimp only [Pt.U, Pt.locs, Pt.cells, Pt.slots] at X1296 l1296 y1296 z1296 st1296 hQ1296
          subst l1296 y1296 z1296
          obtain ⟨rfl, N1296q, H1296⟩ := hQ1296
          have N1296 := Fr.app N1295 N1296q
          obtain ⟨fs, hr, hrun, hended, eR, eW, eI, eS⟩ := Stand.leaveW (s := s) (vm₁ := T1231.vm) X1296 hS1231 (by rw [H1296]; omega) (v := some (.int (1 : Int32))) (fun h => by rw [Bd.returns] at h; cases h)
          refine ⟨_, _, pre1222 _ ?_, hrun, hended, _, _, rfl, ?_, eR, eW, eI, eS.mono (by decide) (by decide)⟩
          · skip
            show Steps p.tables e below (s₁.setTop (mkF m 123 #[.val (.int p1), .val (.int p2), .val (.int p3), .val (.int p4), .val .null, .val .null, .val .null, .unset, .unset, .unset, .unset, .unset, .unset] [(.int (p1 &&& (8 : Int32)))])) _
            refine XS.ifYes X0.here hx rfl (pc0 := 123) (pc' := 130) rfl (hb hby at_123) rfl ((if0 _ _).trans (teq hc1221).1) (by decide) (by decide) ?_
            show Steps p.tables e below (s₁.setTop (mkF m 130 #[.val (.int p1), .val (.int p2), .val (.int p3), .val (.int p4), .val .null, .val .null, .val .null, .unset, .unset, .unset, .unset, .unset, .unset] [])) _
            refine XS.iconst X0.here hx rfl (hb hby at_130) ?_
            show Steps p.tables e below (s₁.setTop (mkF m 131 #[.val (.int p1), .val (.int p2), .val (.int p3), .val (.int p4), .val .null, .val .null, .val .null, .unset, .unset, .unset, .unset, .unset, .unset] [(.int (0 : Int32))])) _
            refine XS.istore X0.here hx rfl (hb hby at_131) rfl (l' := #[.val (.int p1), .val (.int p2), .val (.int p3), .val (.int p4), .val .null, .val .null, .val .null, .val (.int (0 : Int32)), .unset, .unset, .unset, .unset, .unset]) rfl ?_
            show Steps p.tables e below (s₁.setTop (mkF m 133 #[.val (.int p1), .val (.int p2), .val (.int p3), .val (.int p4), .val .null, .val .null, .val .null, .val (.int (0 : Int32)), .unset, .unset, .unset, .unset, .unset] [])) _
            refine XS.iload X0.here hx rfl (hb hby at_133) rfl ?_
            show Steps p.tables e below (s₁.setTop (mkF m 135 #[.val (.int p1), .val (.int p2), .val (.int p3), .val (.int p4), .val .null, .val .null, .val .null, .val (.int (0 : Int32)), .unset, .unset, .unset, .unset, .unset] [(.int (0 : Int32))])) _
            refine XS.ifYes X0.here hx rfl (pc0 := 135) (pc' := 142) rfl (hb hby at_135) rfl ((if0 _ _).trans (teq (by decide : (0 : Int32) = (0 : Int32))).1) (by decide) (by decide) ?_
            show Steps p.tables e below (s₁.setTop (mkF m 142 #[.val (.int p1), .val (.int p2), .val (.int p3), .val (.int p4), .val .null, .val .null, .val .null, .val (.int (0 : Int32)), .unset, .unset, .unset, .unset, .unset] [])) _
            refine XS.iconst X0.here hx rfl (hb hby at_142) ?_
            show Steps p.tables e below (s₁.setTop (mkF m 143 #[.val (.int p1), .val (.int p2), .val (.int p3), .val (.int p4), .val .null, .val .null, .val .null, .val (.int (0 : Int32)), .unset, .unset, .unset, .unset, .unset] [(.int (3 : Int32))])) _
            refine st1223 _ ?_
            show Steps p.tables e below (T1223.setTop (mkF m 146 #[.val (.int p1), .val (.int p2), .val (.int p3), .val (.int p4), .val .null, .val .null, .val .null, .val (.int (0 : Int32)), .unset, .unset, .unset, .unset, .unset] [(.ref b1223)])) _
            refine XS.dup X1223.here hx rfl (hb hby at_146) rfl rfl ?_
            show Steps p.tables e below (T1223.setTop (mkF m 147 #[.val (.int p1), .val (.int p2), .val (.int p3), .val (.int p4), .val .null, .val .null, .val .null, .val (.int (0 : Int32)), .unset, .unset, .unset, .unset, .unset] [(.ref b1223), (.ref b1223)])) _
            refine XS.iconst X1223.here hx rfl (hb hby at_147) ?_
            show Steps p.tables e below (T1223.setTop (mkF m 148 #[.val (.int p1), .val (.int p2), .val (.int p3), .val (.int p4), .val .null, .val .null, .val .null, .val (.int (0 : Int32)), .unset, .unset, .unset, .unset, .unset] [(.int (0 : Int32)), (.ref b1223), (.ref b1223)])) _
            refine XS.aload X1223.here hx rfl (hb hby at_148) rfl rfl ?_
            show Steps p.tables e below (T1223.setTop (mkF m 150 #[.val (.int p1), .val (.int p2), .val (.int p3), .val (.int p4), .val .null, .val .null, .val .null, .val (.int (0 : Int32)), .unset, .unset, .unset, .unset, .unset] [.null, (.int (0 : Int32)), (.ref b1223), (.ref b1223)])) _
            refine st1225 _ ?_
            show Steps p.tables e below (T1225.setTop (mkF m 151 #[.val (.int p1), .val (.int p2), .val (.int p3), .val (.int p4), .val .null, .val .null, .val .null, .val (.int (0 : Int32)), .unset, .unset, .unset, .unset, .unset] [(.ref b1223)])) _
            refine XS.dup X1225.here hx rfl (hb hby at_151) rfl rfl ?_
            show Steps p.tables e below (T1225.setTop (mkF m 152 #[.val (.int p1), .val (.int p2), .val (.int p3), .val (.int p4), .val .null, .val .null, .val .null, .val (.int (0 : Int32)), .unset, .unset, .unset, .unset, .unset] [(.ref b1223), (.ref b1223)])) _
            refine XS.iconst X1225.here hx rfl (hb hby at_152) ?_
            show Steps p.tables e below (T1225.setTop (mkF m 153 #[.val (.int p1), .val (.int p2), .val (.int p3), .val (.int p4), .val .null, .val .null, .val .null, .val (.int (0 : Int32)), .unset, .unset, .unset, .unset, .unset] [(.int (1 : Int32)), (.ref b1223), (.ref b1223)])) _
            refine XS.aload X1225.here hx rfl (hb hby at_153) rfl rfl ?_
            show Steps p.tables e below (T1225.setTop (mkF m 155 #[.val (.int p1), .val (.int p2), .val (.int p3), .val (.int p4), .val .null, .val .null, .val .null, .val (.int (0 : Int32)), .unset, .unset, .unset, .unset, .unset] [.null, (.int (1 : Int32)), (.ref b1223), (.ref b1223)])) _
            refine st1227 _ ?_
            show Steps p.tables e below (T1227.setTop (mkF m 156 #[.val (.int p1), .val (.int p2), .val (.int p3), .val (.int p4), .val .null, .val .null, .val .null, .val (.int (0 : Int32)), .unset, .unset, .unset, .unset, .unset] [(.ref b1223)])) _
            refine XS.dup X1227.here hx rfl (hb hby at_156) rfl rfl ?_
            show Steps p.tables e below (T1227.setTop (mkF m 157 #[.val (.int p1), .val (.int p2), .val (.int p3), .val (.int p4), .val .null, .val .null, .val .null, .val (.int (0 : Int32)), .unset, .unset, .unset, .unset, .unset] [(.ref b1223), (.ref b1223)])) _
            refine XS.iconst X1227.here hx rfl (hb hby at_157) ?_
            show Steps p.tables e below (T1227.setTop (mkF m 158 #[.val (.int p1), .val (.int p2), .val (.int p3), .val (.int p4), .val .null, .val .null, .val .null, .val (.int (0 : Int32)), .unset, .unset, .unset, .unset, .unset] [(.int (2 : Int32)), (.ref b1223), (.ref b1223)])) _
            refine XS.aload X1227.here hx rfl (hb hby at_158) rfl rfl ?_
            show Steps p.tables e below (T1227.setTop (mkF m 160 #[.val (.int p1), .val (.int p2), .val (.int p3), .val (.int p4), .val .null, .val .null, .val .null, .val (.int (0 : Int32)), .unset, .unset, .unset, .unset, .unset] [.null, (.int (2 : Int32)), (.ref b1223), (.ref b1223)])) _
            refine st1229 _ ?_
            show Steps p.tables e below (T1229.setTop (mkF m 161 #[.val (.int p1), .val (.int p2), .val (.int p3), .val (.int p4), .val .null, .val .null, .val .null, .val (.int (0 : Int32)), .unset, .unset, .unset, .unset, .unset] [(.ref b1223)])) _
            refine XS.astore X1229.here hx rfl (hb hby at_161) rfl rfl (l' := #[.val (.int p1), .val (.int p2), .val (.int p3), .val (.int p4), .val .null, .val .null, .val .null, .val (.int (0 : Int32)), .val (.ref b1223), .unset, .unset, .unset, .unset]) rfl ?_
            show Steps p.tables e below (T1229.setTop (mkF m 163 #[.val (.int p1), .val (.int p2), .val (.int p3), .val (.int p4), .val .null, .val .null, .val .null, .val (.int (0 : Int32)), .val (.ref b1223), .unset, .unset, .unset, .unset] [])) _
            refine st1230 _ ?_
            show Steps p.tables e below (T1230.setTop (mkF m 166 #[.val (.int p1), .val (.int p2), .val (.int p3), .val (.int p4), .val .null, .val .null, .val .null, .val (.int (0 : Int32)), .val (.ref b1223), .unset, .unset, .unset, .unset] [(.ref b1230)])) _
            refine XS.dup X1230.here hx rfl (hb hby at_166) rfl rfl ?_
            show Steps p.tables e below (T1230.setTop (mkF m 167 #[.val (.int p1), .val (.int p2), .val (.int p3), .val (.int p4), .val .null, .val .null, .val .null, .val (.int (0 : Int32)), .val (.ref b1223), .unset, .unset, .unset, .unset] [(.ref b1230), (.ref b1230)])) _
            refine st1231 _ ?_
            show Steps p.tables e below (T1231.setTop (mkF m 169 #[.val (.int p1), .val (.int p2), .val (.int p3), .val (.int p4), .val .null, .val .null, .val .null, .val (.int (0 : Int32)), .val (.ref b1223), .unset, .unset, .unset, .unset] [(.ref b1231), (.ref b1230), (.ref b1230)])) _
            refine XS.aload X1231.here hx rfl (hb hby at_169) rfl rfl ?_
            show Steps p.tables e below (T1231.setTop (mkF m 171 #[.val (.int p1), .val (.int p2), .val (.int p3), .val (.int p4), .val .null, .val .null, .val .null, .val (.int (0 : Int32)), .val (.ref b1223), .unset, .unset, .unset, .unset] [(.ref b1223), (.ref b1231), (.ref b1230), (.ref b1230)])) _
            refine st1232.trans ?_
            show Steps p.tables e below (T1232.setTop (mkF m 174 #[.val (.int p1), .val (.int p2), .val (.int p3), .val (.int p4), .val .null, .val .null, .val .null, .val (.int (0 : Int32)), .val (.ref b1223), .unset, .unset, .unset, .unset] [(.ref b1230)])) _
            refine XS.astore X1232.here hx rfl (hb hby at_174) rfl rfl (l' := #[.val (.int p1), .val (.int p2), .val (.int p3), .val (.int p4), .val .null, .val .null, .val .null, .val (.int (0 : Int32)), .val (.ref b1223), .val (.ref b1230), .unset, .unset, .unset]) rfl ?_
            show Steps p.tables e below (T1232.setTop (mkF m 176 #[.val (.int p1), .val (.int p2), .val (.int p3), .val (.int p4), .val .null, .val .null, .val .null, .val (.int (0 : Int32)), .val (.ref b1223), .val (.ref b1230), .unset, .unset, .unset] [])) _
            refine XS.aload X1232.here hx rfl (hb hby at_176) rfl rfl ?_
            show Steps p.tables e below (T1232.setTop (mkF m 178 #[.val (.int p1), .val (.int p2), .val (.int p3), .val (.int p4), .val .null, .val .null, .val .null, .val (.int (0 : Int32)), .val (.ref b1223), .val (.ref b1230), .unset, .unset, .unset] [(.ref b1230)])) _
            refine st1243 _ ?_
            show Steps p.tables e below (T1243.setTop (mkF m 181 #[.val (.int p1), .val (.int p2), .val (.int p3), .val (.int p4), .val .null, .val .null, .val .null, .val (.int (0 : Int32)), .val (.ref b1223), .val (.ref b1230), .unset, .unset, .unset] [(.ref lf0), (.ref b1230)])) _
            refine st1244.trans ?_
            show Steps p.tables e below (T1244.setTop (mkF m 184 #[.val (.int p1), .val (.int p2), .val (.int p3), .val (.int p4), .val .null, .val .null, .val .null, .val (.int (0 : Int32)), .val (.ref b1223), .val (.ref b1230), .unset, .unset, .unset] [.null])) _
            refine XS.astore X1244.here hx rfl (hb hby at_184) rfl rfl (l' := #[.val (.int p1), .val (.int p2), .val (.int p3), .val (.int p4), .val .null, .val .null, .val .null, .val (.int (0 : Int32)), .val (.ref b1223), .val (.ref b1230), .val .null, .unset, .unset]) rfl ?_
            show Steps p.tables e below (T1244.setTop (mkF m 186 #[.val (.int p1), .val (.int p2), .val (.int p3), .val (.int p4), .val .null, .val .null, .val .null, .val (.int (0 : Int32)), .val (.ref b1223), .val (.ref b1230), .val .null, .unset, .unset] [])) _
            refine XS.aload X1244.here hx rfl (hb hby at_186) rfl rfl ?_
            show Steps p.tables e below (T1244.setTop (mkF m 188 #[.val (.int p1), .val (.int p2), .val (.int p3), .val (.int p4), .val .null, .val .null, .val .null, .val (.int (0 : Int32)), .val (.ref b1223), .val (.ref b1230), .val .null, .unset, .unset] [(.ref b1230)])) _
            refine st1262 _ ?_
            show Steps p.tables e below (T1262.setTop (mkF m 191 #[.val (.int p1), .val (.int p2), .val (.int p3), .val (.int p4), .val .null, .val .null, .val .null, .val (.int (0 : Int32)), .val (.ref b1223), .val (.ref b1230), .val .null, .unset, .unset] [(.ref lf1), (.ref b1230)])) _
            refine st1263.trans ?_
            show Steps p.tables e below (T1263.setTop (mkF m 194 #[.val (.int p1), .val (.int p2), .val (.int p3), .val (.int p4), .val .null, .val .null, .val .null, .val (.int (0 : Int32)), .val (.ref b1223), .val (.ref b1230), .val .null, .unset, .unset] [.null])) _
            refine XS.astore X1263.here hx rfl (hb hby at_194) rfl rfl (l' := #[.val (.int p1), .val (.int p2), .val (.int p3), .val (.int p4), .val .null, .val .null, .val .null, .val (.int (0 : Int32)), .val (.ref b1223), .val (.ref b1230), .val .null, .val .null, .unset]) rfl ?_
            show Steps p.tables e below (T1263.setTop (mkF m 196 #[.val (.int p1), .val (.int p2), .val (.int p3), .val (.int p4), .val .null, .val .null, .val .null, .val (.int (0 : Int32)), .val (.ref b1223), .val (.ref b1230), .val .null, .val .null, .unset] [])) _
            refine XS.aload X1263.here hx rfl (hb hby at_196) rfl rfl ?_
            show Steps p.tables e below (T1263.setTop (mkF m 198 #[.val (.int p1), .val (.int p2), .val (.int p3), .val (.int p4), .val .null, .val .null, .val .null, .val (.int (0 : Int32)), .val (.ref b1223), .val (.ref b1230), .val .null, .val .null, .unset] [(.ref b1230)])) _
            refine st1278 _ ?_
            show Steps p.tables e below (T1278.setTop (mkF m 201 #[.val (.int p1), .val (.int p2), .val (.int p3), .val (.int p4), .val .null, .val .null, .val .null, .val (.int (0 : Int32)), .val (.ref b1223), .val (.ref b1230), .val .null, .val .null, .unset] [(.ref lf2), (.ref b1230)])) _
            refine st1279.trans ?_
            show Steps p.tables e below (T1279.setTop (mkF m 204 #[.val (.int p1), .val (.int p2), .val (.int p3), .val (.int p4), .val .null, .val .null, .val .null, .val (.int (0 : Int32)), .val (.ref b1223), .val (.ref b1230), .val .null, .val .null, .unset] [.null])) _
            refine XS.astore X1279.here hx rfl (hb hby at_204) rfl rfl (l' := #[.val (.int p1), .val (.int p2), .val (.int p3), .val (.int p4), .val .null, .val .null, .val .null, .val (.int (0 : Int32)), .val (.ref b1223), .val (.ref b1230), .val .null, .val .null, .val .null]) rfl ?_
            show Steps p.tables e below (T1279.setTop (mkF m 206 #[.val (.int p1), .val (.int p2), .val (.int p3), .val (.int p4), .val .null, .val .null, .val .null, .val (.int (0 : Int32)), .val (.ref b1223), .val (.ref b1230), .val .null, .val .null, .val .null] [])) _
            refine XS.iload X1279.here hx rfl (hb hby at_206) rfl ?_
            show Steps p.tables e below (T1279.setTop (mkF m 208 #[.val (.int p1), .val (.int p2), .val (.int p3), .val (.int p4), .val .null, .val .null, .val .null, .val (.int (0 : Int32)), .val (.ref b1223), .val (.ref b1230), .val .null, .val .null, .val .null] [(.int (0 : Int32))])) _
            refine XS.ifYes X1279.here hx rfl (pc0 := 208) (pc' := 232) rfl (hb hby at_208) rfl ((if0 _ _).trans (teq (by decide : (0 : Int32) = (0 : Int32))).1) (by decide) (by decide) ?_
            show Steps p.tables e below (T1279.setTop (mkF m 232 #[.val (.int p1), .val (.int p2), .val (.int p3), .val (.int p4), .val .null, .val .null, .val .null, .val (.int (0 : Int32)), .val (.ref b1223), .val (.ref b1230), .val .null, .val .null, .val .null] [])) _
            refine XS.aload X1279.here hx rfl (hb hby at_232) rfl rfl ?_
            show Steps p.tables e below (T1279.setTop (mkF m 234 #[.val (.int p1), .val (.int p2), .val (.int p3), .val (.int p4), .val .null, .val .null, .val .null, .val (.int (0 : Int32)), .val (.ref b1223), .val (.ref b1230), .val .null, .val .null, .val .null] [.null])) _
            refine XS.aload X1279.here hx rfl (hb hby at_234) rfl rfl ?_
            show Steps p.tables e below (T1279.setTop (mkF m 236 #[.val (.int p1), .val (.int p2), .val (.int p3), .val (.int p4), .val .null, .val .null, .val .null, .val (.int (0 : Int32)), .val (.ref b1223), .val (.ref b1230), .val .null, .val .null, .val .null] [.null, .null])) _
            refine st1294 _ ?_
            show Steps p.tables e below (T1294.setTop (mkF m 239 #[.val (.int p1), .val (.int p2), .val (.int p3), .val (.int p4), .val .null, .val .null, .val .null, .val (.int (0 : Int32)), .val (.ref b1223), .val (.ref b1230), .val .null, .val .null, .val .null] [(.int (1 : Int32))])) _
            refine XS.ifNo X1294.here hx rfl (hb hby at_239) rfl ((if0 _ _).trans (feq (by decide : ¬ ((1 : Int32) = (0 : Int32)))).1) ?_
            show Steps p.tables e below (T1294.setTop (mkF m 242 #[.val (.int p1), .val (.int p2), .val (.int p3), .val (.int p4), .val .null, .val .null, .val .null, .val (.int (0 : Int32)), .val (.ref b1223), .val (.ref b1230), .val .null, .val .null, .val .null] [])) _
            refine XS.aload X1294.here hx rfl (hb hby at_242) rfl rfl ?_
            show Steps p.tables e below (T1294.setTop (mkF m 244 #[.val (.int p1), .val (.int p2), .val (.int p3), .val (.int p4), .val .null, .val .null, .val .null, .val (.int (0 : Int32)), .val (.ref b1223), .val (.ref b1230), .val .null, .val .null, .val .null] [.null])) _
            refine XS.aload X1294.here hx rfl (hb hby at_244) rfl rfl ?_
            show Steps p.tables e below (T1294.setTop (mkF m 246 #[.val (.int p1), .val (.int p2), .val (.int p3), .val (.int p4), .val .null, .val .null, .val .null, .val (.int (0 : Int32)), .val (.ref b1223), .val (.ref b1230), .val .null, .val .null, .val .null] [.null, .null])) _
            refine st1295 _ ?_
            show Steps p.tables e below (T1295.setTop (mkF m 249 #[.val (.int p1), .val (.int p2), .val (.int p3), .val (.int p4), .val .null, .val .null, .val .null, .val (.int (0 : Int32)), .val (.ref b1223), .val (.ref b1230), .val .null, .val .null, .val .null] [(.int (1 : Int32))])) _
            refine XS.ifNo X1295.here hx rfl (hb hby at_249) rfl ((if0 _ _).trans (feq (by decide : ¬ ((1 : Int32) = (0 : Int32)))).1) ?_
            show Steps p.tables e below (T1295.setTop (mkF m 252 #[.val (.int p1), .val (.int p2), .val (.int p3), .val (.int p4), .val .null, .val .null, .val .null, .val (.int (0 : Int32)), .val (.ref b1223), .val (.ref b1230), .val .null, .val .null, .val .null] [])) _
            refine XS.aload X1295.here hx rfl (hb hby at_252) rfl rfl ?_
            show Steps p.tables e below (T1295.setTop (mkF m 254 #[.val (.int p1), .val (.int p2), .val (.int p3), .val (.int p4), .val .null, .val .null, .val .null, .val (.int (0 : Int32)), .val (.ref b1223), .val (.ref b1230), .val .null, .val .null, .val .null] [.null])) _
            refine XS.aload X1295.here hx rfl (hb hby at_254) rfl rfl ?_
            show Steps p.tables e below (T1295.setTop (mkF m 256 #[.val (.int p1), .val (.int p2), .val (.int p3), .val (.int p4), .val .null, .val .null, .val .null, .val (.int (0 : Int32)), .val (.ref b1223), .val (.ref b1230), .val .null, .val .null, .val .null] [.null, .null])) _
            refine st1296 _ ?_
            show Steps p.tables e below (T1296.setTop (mkF m 259 #[.val (.int p1), .val (.int p2), .val (.int p3), .val (.int p4), .val .null, .val .null, .val .null, .val (.int (0 : Int32)), .val (.ref b1223), .val (.ref b1230), .val .null, .val .null, .val .null] [(.int (1 : Int32))])) _
            refine XS.ifNo X1296.here hx rfl (hb hby at_259) rfl ((if0 _ _).trans (feq (by decide : ¬ ((1 : Int32) = (0 : Int32)))).1) ?_
            show Steps p.tables e below (T1296.setTop (mkF m 262 #[.val (.int p1), .val (.int p2), .val (.int p3), .val (.int p4), .val .null, .val .null, .val .null, .val (.int (0 : Int32)), .val (.ref b1223), .val (.ref b1230), .val .null, .val .null, .val .null] [])) _
            refine XS.iconst X1296.here hx rfl (hb hby at_262) ?_
            show Steps p.tables e below (T1296.setTop (mkF m 263 #[.val (.int p1), .val (.int p2), .val (.int p3), .val (.int p4), .val .null, .val .null, .val .null, .val (.int (0 : Int32)), .val (.ref b1223), .val (.ref b1230), .val .null, .val .null, .val .null] [(.int (1 : Int32))])) _
            refine XS.goto X1296.here hx rfl (pc0 := 263) (pc' := 267) rfl (hb hby at_263) (by decide) (by decide) ?_
            show Steps p.tables e below (T1296.setTop (mkF m 267 #[.val (.int p1), .val (.int p2), .val (.int p3), .val (.int p4), .val .null, .val .null, .val .null, .val (.int (0 : Int32)), .val (.ref b1223), .val (.ref b1230), .val .null, .val .null, .val .null] [(.int (1 : Int32))])) _
            exact retN X1296 hx (t := .boolean) Bd.returns (by simp) (hb hby at_267) hr
          · show Q_rm0 Z p1 p2 p3 p4 cs lf0 lf1 lf2 h0 n0 _ T1296.heap _
            rw [H1296]
            exact ⟨rfl, N1296⟩
        · skip
          obtain ⟨T1297, h1297, X1297, e1297, E1297, A1297, D1297, -, st1297⟩ := newO X0 hx hZ hown (tw hw 45 rfl) (tw hw 46 rfl) (tw hw 47 rfl) e0 (g := (mkF m 163 #[.val (.int p1), .val (.int p2), .val (.int p3), .val (.int p4), .val .null, .val .null, .val .null, .val (.int (1 : Int32)), .val .null, .unset, .unset, .unset, .unset] [])) rfl (hb hby at_163) (by decide) (by decide)
          obtain ⟨b1297, g1297⟩ : ∃ z, z = h0.size := ⟨_, rfl⟩
          rw [← g1297] at A1297 D1297 st1297
          have lt1297 : @LT.lt Nat _ b1297 h1297.size := A1297.lt
          have K1297 : Keep h0 h1297 [] := (Keep.refl _ _).ext E1297
          have sz1_K1297 := K1297.1
          have F1297_loc : Fld Z h1297 b1297 "com/example/links_to_sitemap/linkstositemap/SitemapFileWriter$Entry" "loc" "Ljava/lang/String;" .null := D1297 (Or.inr (tw hw 56 rfl)) (ty := (.object "java/lang/String")) (by decide)
          have F1297_fields : Fld Z h1297 b1297 "com/example/links_to_sitemap/linkstositemap/SitemapFileWriter$Entry" "fields" "[Ljava/lang/String;" .null := D1297 (Or.inr (tw hw 58 rfl)) (ty := (.array (.object "java/lang/String"))) (by decide)
          obtain ⟨b1298, T1298, h1298, k1298, X1298, e1298, E1298, hS1298, hk1298, hZ1298, hown1298, st1298⟩ := ldcS (s := s) (vm0 := s.vm) X1297 hx hZ hown (tw hw 48 rfl) wStr e1297 hS0 (by omega) (g := (mkF m 167 #[.val (.int p1), .val (.int p2), .val (.int p3), .val (.int p4), .val .null, .val .null, .val .null, .val (.int (1 : Int32)), .val .null, .unset, .unset, .unset, .unset] [(.ref b1297), (.ref b1297)])) rfl (hb hby at_167) (n := 80) (by decide) (by decide) (by decide) (by decide)
          have K1298 : Keep h1297 h1298 [] := (Keep.refl _ _).ext E1298
          have sz2_K1298 := K1298.1
          have C1300 := A1297.keep K1298
          have C1301 := F1297_loc.keep K1298 nin0
          have C1302 := F1297_fields.keep K1298 nin0
          have O1303 : Old Z n0 h1297 := O0.keep K1297 all0
          have O1304 : Old Z n0 h1298 := O1303.keep K1298 all0
          obtain ⟨_, _, ⟨T1299, L1299, k1299, n1299⟩, -, X1299, ⟨Lc1299, hQ1299, l1299, y1299, z1299⟩, st1299⟩ := X1298.specialBack hx (y := (⟨"com/example/links_to_sitemap/linkstositemap/SitemapFileWriter$Entry", "<init>", "(Ljava/lang/String;[Ljava/lang/String;)V"⟩ : MethodName)) rfl hown1298 (mvT hZ1298 (tw hw 51 rfl)) (mvT hZ1298 (tw hw 52 rfl)) (mvT hZ1298 (tw hw 53 rfl)) (by decide) (backOf (W := 1) (rmEntryN l Z a0 hw [] b1297 b1298  h1298 n0 O1304 (by omega : @LE.le Nat _ n0 b1297) C1300 C1301 C1302) hZ1298 (tw hw 53 rfl) (tw hw 47 rfl) (by decide) (by decide)) (g := (mkF m 171 #[.val (.int p1), .val (.int p2), .val (.int p3), .val (.int p4), .val .null, .val .null, .val .null, .val (.int (1 : Int32)), .val .null, .unset, .unset, .unset, .unset] [.null, (.ref b1298), (.ref b1297), (.ref b1297)])) rfl (by rw [hml]; rfl) (Steps.refl _) (a := b1297) (argsL := [(.ref b1298), .null]) (rest := [(.ref b1297)]) (lenOf pd_10 rfl) rfl (by show 2 * 0 + _ ≤ _; exact Nat.le_of_eq rfl) (hb hby at_171) (fun _ _ => ⟨rfl, e1298, (by decide : 3 + 0 ≤ _), (by decide : 86 + 0 ≤ _)⟩)
          dsimp only [Pt.U, Pt.locs, Pt.cells, Pt.slots] at X1299 l1299 y1299 z1299 st1299 hQ1299
          subst l1299 y1299 z1299
          obtain ⟨rfl, N1299q, K1299, E1299, F1299⟩ := hQ1299
          have sz3_K1299 := K1299.1
          have N1299 := Fr.app N0 N1299q
          have O1305 : Old Z n0 T1299.heap := O1304.keep K1299 (allS (by omega) (all0))
          obtain ⟨T1306, X1306, e1306, st1306⟩ := getS2 X1299 hx hZ1298 hown1298 (host := "") (Or.inl (tw hw 59 rfl)) Via.refl rfl (Sta.ext O1305.2 S_0) (g := (mkF m 178 #[.val (.int p1), .val (.int p2), .val (.int p3), .val (.int p4), .val .null, .val .null, .val .null, .val (.int (1 : Int32)), .val .null, .val (.ref b1297), .unset, .unset, .unset] [(.ref b1297)])) rfl (hb hby at_178)
          obtain ⟨cq1307, kq1307, q1307a, q1307b, q1307c⟩ := isOf hZ1298 e1306 E1299
          obtain ⟨_, _, ⟨T1307, L1307, k1307, n1307⟩, -, X1307, ⟨Lc1307, hQ1307, l1307, y1307, z1307⟩, st1307⟩ := X1306.virtualBack hx (y := (⟨"com/example/links_to_sitemap/linkstositemap/SitemapFileWriter$Entry", "field", "(Lcom/example/links_to_sitemap/linkstositemap/LinkField;)Ljava/lang/String;"⟩ : MethodName)) (z := (⟨"com/example/links_to_sitemap/linkstositemap/SitemapFileWriter$Entry", "field", "(Lcom/example/links_to_sitemap/linkstositemap/LinkField;)Ljava/lang/String;"⟩ : MethodName)) hown1298 (mvT hZ1298 (tw hw 62 rfl)) (mvT hZ1298 (tw hw 63 rfl)) (notFace_of_selects (args := #[]) (mvT hZ1298 (tw hw 65 rfl))) (mvT hZ1298 (tw hw 65 rfl)) (mvT hZ1298 (tw hw 64 rfl)) (by decide) (backOf (W := 0) (rmFieldN l Z a0 hw [] b1297 lf0  T1299.heap n0 O1305 F1299) hZ1298 (tw hw 66 rfl) (tw hw 47 rfl) (by decide) (by decide)) q1307a q1307c (g := (mkF m 181 #[.val (.int p1), .val (.int p2), .val (.int p3), .val (.int p4), .val .null, .val .null, .val .null, .val (.int (1 : Int32)), .val .null, .val (.ref b1297), .unset, .unset, .unset] [(.ref lf0), (.ref b1297)])) rfl (by rw [hml]; rfl) (Steps.refl _) (argsL := [(.ref lf0)]) (rest := []) (lenOf pd_11 rfl) rfl (by show 2 * 0 + _ ≤ _; exact Nat.le_of_eq rfl) (hb hby at_181) (fun _ _ => ⟨rfl, e1306, (by decide : 3 + 0 ≤ _), (by decide : 86 + 0 ≤ _)⟩)
          dsimp only [Pt.U, Pt.locs, Pt.cells, Pt.slots] at X1307 l1307 y1307 z1307 st1307 hQ1307
          subst l1307 y1307 z1307
          obtain ⟨rfl, N1307q, H1307⟩ := hQ1307
          have N1307 := Fr.app N1299 N1307q
          obtain ⟨T1308, X1308, e1308, st1308⟩ := getS2 X1307 hx hZ1298 hown1298 (host := "") (Or.inl (tw hw 76 rfl)) Via.refl H1307 (Sta.ext O1305.2 S_1) (g := (mkF m 188 #[.val (.int p1), .val (.int p2), .val (.int p3), .val (.int p4), .val .null, .val .null, .val .null, .val (.int (1 : Int32)), .val .null, .val (.ref b1297), .val .null, .unset, .unset] [(.ref b1297)])) rfl (hb hby at_188)
          obtain ⟨cq1309, kq1309, q1309a, q1309b, q1309c⟩ := isOf hZ1298 e1308 E1299
          obtain ⟨_, _, ⟨T1309, L1309, k1309, n1309⟩, -, X1309, ⟨Lc1309, hQ1309, l1309, y1309, z1309⟩, st1309⟩ := X1308.virtualBack hx (y := (⟨"com/example/links_to_sitemap/linkstositemap/SitemapFileWriter$Entry", "field", "(Lcom/example/links_to_sitemap/linkstositemap/LinkField;)Ljava/lang/String;"⟩ : MethodName)) (z := (⟨"com/example/links_to_sitemap/linkstositemap/SitemapFileWriter$Entry", "field", "(Lcom/example/links_to_sitemap/linkstositemap/LinkField;)Ljava/lang/String;"⟩ : MethodName)) hown1298 (mvT hZ1298 (tw hw 62 rfl)) (mvT hZ1298 (tw hw 63 rfl)) (notFace_of_selects (args := #[]) (mvT hZ1298 (tw hw 65 rfl))) (mvT hZ1298 (tw hw 65 rfl)) (mvT hZ1298 (tw hw 64 rfl)) (by decide) (backOf (W := 0) (rmFieldN l Z a0 hw [] b1297 lf1  T1299.heap n0 O1305 F1299) hZ1298 (tw hw 66 rfl) (tw hw 47 rfl) (by decide) (by decide)) q1309a q1309c (g := (mkF m 191 #[.val (.int p1), .val (.int p2), .val (.int p3), .val (.int p4), .val .null, .val .null, .val .null, .val (.int (1 : Int32)), .val .null, .val (.ref b1297), .val .null, .unset, .unset] [(.ref lf1), (.ref b1297)])) rfl (by rw [hml]; rfl) (Steps.refl _) (argsL := [(.ref lf1)]) (rest := []) (lenOf pd_11 rfl) rfl (by show 2 * 0 + _ ≤ _; exact Nat.le_of_eq rfl) (hb hby at_191) (fun _ _ => ⟨rfl, e1308, (by decide : 3 + 0 ≤ _), (by decide : 86 + 0 ≤ _)⟩)
          dsimp only [Pt.U, Pt.locs, Pt.cells, Pt.slots] at X1309 l1309 y1309 z1309 st1309 hQ1309
          subst l1309 y1309 z1309
          obtain ⟨rfl, N1309q, H1309⟩ := hQ1309
          have N1309 := Fr.app N1307 N1309q
          obtain ⟨T1310, X1310, e1310, st1310⟩ := getS2 X1309 hx hZ1298 hown1298 (host := "") (Or.inl (tw hw 78 rfl)) Via.refl H1309 (Sta.ext O1305.2 S_2) (g := (mkF m 198 #[.val (.int p1), .val (.int p2), .val (.int p3), .val (.int p4), .val .null, .val .null, .val .null, .val (.int (1 : Int32)), .val .null, .val (.ref b1297), .val .null, .val .null, .unset] [(.ref b1297)])) rfl (hb hby at_198)
          obtain ⟨cq1311, kq1311, q1311a, q1311b, q1311c⟩ := isOf hZ1298 e1310 E1299
          obtain ⟨_, _, ⟨T1311, L1311, k1311, n1311⟩, -, X1311, ⟨Lc1311, hQ1311, l1311, y1311, z1311⟩, st1311⟩ := X1310.virtualBack hx (y := (⟨"com/example/links_to_sitemap/linkstositemap/SitemapFileWriter$Entry", "field", "(Lcom/example/links_to_sitemap/linkstositemap/LinkField;)Ljava/lang/String;"⟩ : MethodName)) (z := (⟨"com/example/links_to_sitemap/linkstositemap/SitemapFileWriter$Entry", "field", "(Lcom/example/links_to_sitemap/linkstositemap/LinkField;)Ljava/lang/String;"⟩ : MethodName)) hown1298 (mvT hZ1298 (tw hw 62 rfl)) (mvT hZ1298 (tw hw 63 rfl)) (notFace_of_selects (args := #[]) (mvT hZ1298 (tw hw 65 rfl))) (mvT hZ1298 (tw hw 65 rfl)) (mvT hZ1298 (tw hw 64 rfl)) (by decide) (backOf (W := 0) (rmFieldN l Z a0 hw [] b1297 lf2  T1299.heap n0 O1305 F1299) hZ1298 (tw hw 66 rfl) (tw hw 47 rfl) (by decide) (by decide)) q1311a q1311c (g := (mkF m 201 #[.val (.int p1), .val (.int p2), .val (.int p3), .val (.int p4), .val .null, .val .null, .val .null, .val (.int (1 : Int32)), .val .null, .val (.ref b1297), .val .null, .val .null, .unset] [(.ref lf2), (.ref b1297)])) rfl (by rw [hml]; rfl) (Steps.refl _) (argsL := [(.ref lf2)]) (rest := []) (lenOf pd_11 rfl) rfl (by show 2 * 0 + _ ≤ _; exact Nat.le_of_eq rfl) (hb hby at_201) (fun _ _ => ⟨rfl, e1310, (by decide : 3 + 0 ≤ _), (by decide : 86 + 0 ≤ _)⟩)
          dsimp only [Pt.U, Pt.locs, Pt.cells, Pt.slots] at X1311 l1311 y1311 z1311 st1311 hQ1311
          subst l1311 y1311 z1311
          obtain ⟨rfl, N1311q, H1311⟩ := hQ1311
          have N1311 := Fr.app N1309 N1311q
          obtain ⟨fs, hr, hrun, hended, eR, eW, eI, eS⟩ := Stand.leaveW (s := s) (vm₁ := T1298.vm) X1311 hS1298 (by rw [H1311]; omega) (v := some (.int (1 : Int32))) (fun h => by rw [Bd.returns] at h; cases h)
          refine ⟨_, _, pre1222 _ ?_, hrun, hended, _, _, rfl, ?_, eR, eW, eI, eS.mono (by decide) (by decide)⟩
          · skip
            show Steps p.tables e below (s₁.setTop (mkF m 123 #[.val (.int p1), .val (.int p2), .val (.int p3), .val (.int p4), .val .null, .val .null, .val .null, .unset, .unset, .unset, .unset, .unset, .unset] [(.int (p1 &&& (8 : Int32)))])) _
            refine XS.ifNo X0.here hx rfl (hb hby at_123) rfl ((if0 _ _).trans (feq hc1221).1) ?_
            show Steps p.tables e below (s₁.setTop (mkF m 126 #[.val (.int p1), .val (.int p2), .val (.int p3), .val (.int p4), .val .null, .val .null, .val .null, .unset, .unset, .unset, .unset, .unset, .unset] [])) _
            refine XS.iconst X0.here hx rfl (hb hby at_126) ?_
            show Steps p.tables e below (s₁.setTop (mkF m 127 #[.val (.int p1), .val (.int p2), .val (.int p3), .val (.int p4), .val .null, .val .null, .val .null, .unset, .unset, .unset, .unset, .unset, .unset] [(.int (1 : Int32))])) _
            refine XS.goto X0.here hx rfl (pc0 := 127) (pc' := 131) rfl (hb hby at_127) (by decide) (by decide) ?_
            show Steps p.tables e below (s₁.setTop (mkF m 131 #[.val (.int p1), .val (.int p2), .val (.int p3), .val (.int p4), .val .null, .val .null, .val .null, .unset, .unset, .unset, .unset, .unset, .unset] [(.int (1 : Int32))])) _
            refine XS.istore X0.here hx rfl (hb hby at_131) rfl (l' := #[.val (.int p1), .val (.int p2), .val (.int p3), .val (.int p4), .val .null, .val .null, .val .null, .val (.int (1 : Int32)), .unset, .unset, .unset, .unset, .unset]) rfl ?_
            show Steps p.tables e below (s₁.setTop (mkF m 133 #[.val (.int p1), .val (.int p2), .val (.int p3), .val (.int p4), .val .null, .val .null, .val .null, .val (.int (1 : Int32)), .unset, .unset, .unset, .unset, .unset] [])) _
            refine XS.iload X0.here hx rfl (hb hby at_133) rfl ?_
            show Steps p.tables e below (s₁.setTop (mkF m 135 #[.val (.int p1), .val (.int p2), .val (.int p3), .val (.int p4), .val .null, .val .null, .val .null, .val (.int (1 : Int32)), .unset, .unset, .unset, .unset, .unset] [(.int (1 : Int32))])) _
            refine XS.ifNo X0.here hx rfl (hb hby at_135) rfl ((if0 _ _).trans (feq (by decide : ¬ ((1 : Int32) = (0 : Int32)))).1) ?_
            show Steps p.tables e below (s₁.setTop (mkF m 138 #[.val (.int p1), .val (.int p2), .val (.int p3), .val (.int p4), .val .null, .val .null, .val .null, .val (.int (1 : Int32)), .unset, .unset, .unset, .unset, .unset] [])) _
            refine XS.aconstNull X0.here hx rfl (hb hby at_138) ?_
            show Steps p.tables e below (s₁.setTop (mkF m 139 #[.val (.int p1), .val (.int p2), .val (.int p3), .val (.int p4), .val .null, .val .null, .val .null, .val (.int (1 : Int32)), .unset, .unset, .unset, .unset, .unset] [.null])) _
            refine XS.goto X0.here hx rfl (pc0 := 139) (pc' := 161) rfl (hb hby at_139) (by decide) (by decide) ?_
            show Steps p.tables e below (s₁.setTop (mkF m 161 #[.val (.int p1), .val (.int p2), .val (.int p3), .val (.int p4), .val .null, .val .null, .val .null, .val (.int (1 : Int32)), .unset, .unset, .unset, .unset, .unset] [.null])) _
            refine XS.astore X0.here hx rfl (hb hby at_161) rfl rfl (l' := #[.val (.int p1), .val (.int p2), .val (.int p3), .val (.int p4), .val .null, .val .null, .val .null, .val (.int (1 : Int32)), .val .null, .unset, .unset, .unset, .unset]) rfl ?_
            show Steps p.tables e below (s₁.setTop (mkF m 163 #[.val (.int p1), .val (.int p2), .val (.int p3), .val (.int p4), .val .null, .val .null, .val .null, .val (.int (1 : Int32)), .val .null, .unset, .unset, .unset, .unset] [])) _
            refine st1297 _ ?_
            show Steps p.tables e below (T1297.setTop (mkF m 166 #[.val (.int p1), .val (.int p2), .val (.int p3), .val (.int p4), .val .null, .val .null, .val .null, .val (.int (1 : Int32)), .val .null, .unset, .unset, .unset, .unset] [(.ref b1297)])) _
            refine XS.dup X1297.here hx rfl (hb hby at_166) rfl rfl ?_
            show Steps p.tables e below (T1297.setTop (mkF m 167 #[.val (.int p1), .val (.int p2), .val (.int p3), .val (.int p4), .val .null, .val .null, .val .null, .val (.int (1 : Int32)), .val .null, .unset, .unset, .unset, .unset] [(.ref b1297), (.ref b1297)])) _
            refine st1298 _ ?_
            show Steps p.tables e below (T1298.setTop (mkF m 169 #[.val (.int p1), .val (.int p2), .val (.int p3), .val (.int p4), .val .null, .val .null, .val .null, .val (.int (1 : Int32)), .val .null, .unset, .unset, .unset, .unset] [(.ref b1298), (.ref b1297), (.ref b1297)])) _
            refine XS.aload X1298.here hx rfl (hb hby at_169) rfl rfl ?_
            show Steps p.tables e below (T1298.setTop (mkF m 171 #[.val (.int p1), .val (.int p2), .val (.int p3), .val (.int p4), .val .null, .val .null, .val .null, .val (.int (1 : Int32)), .val .null, .unset, .unset, .unset, .unset] [.null, (.ref b1298), (.ref b1297), (.ref b1297)])) _
            refine st1299.trans ?_
            show Steps p.tables e below (T1299.setTop (mkF m 174 #[.val (.int p1), .val (.int p2), .val (.int p3), .val (.int p4), .val .null, .val .null, .val .null, .val (.int (1 : Int32)), .val .null, .unset, .unset, .unset, .unset] [(.ref b1297)])) _
            refine XS.astore X1299.here hx rfl (hb hby at_174) rfl rfl (l' := #[.val (.int p1), .val (.int p2), .val (.int p3), .val (.int p4), .val .null, .val .null, .val .null, .val (.int (1 : Int32)), .val .null, .val (.ref b1297), .unset, .unset, .unset]) rfl ?_
            show Steps p.tables e below (T1299.setTop (mkF m 176 #[.val (.int p1), .val (.int p2), .val (.int p3), .val (.int p4), .val .null, .val .null, .val .null, .val (.int (1 : Int32)), .val .null, .val (.ref b1297), .unset, .unset, .unset] [])) _
            refine XS.aload X1299.here hx rfl (hb hby at_176) rfl rfl ?_
            show Steps p.tables e below (T1299.setTop (mkF m 178 #[.val (.int p1), .val (.int p2), .val (.int p3), .val (.int p4), .val .null, .val .null, .val .null, .val (.int (1 : Int32)), .val .null, .val (.ref b1297), .unset, .unset, .unset] [(.ref b1297)])) _
            refine st1306 _ ?_
            show Steps p.tables e below (T1306.setTop (mkF m 181 #[.val (.int p1), .val (.int p2), .val (.int p3), .val (.int p4), .val .null, .val .null, .val .null, .val (.int (1 : Int32)), .val .null, .val (.ref b1297), .unset, .unset, .unset] [(.ref lf0), (.ref b1297)])) _
            refine st1307.trans ?_
            show Steps p.tables e below (T1307.setTop (mkF m 184 #[.val (.int p1), .val (.int p2), .val (.int p3), .val (.int p4), .val .null, .val .null, .val .null, .val (.int (1 : Int32)), .val .null, .val (.ref b1297), .unset, .unset, .unset] [.null])) _
            refine XS.astore X1307.here hx rfl (hb hby at_184) rfl rfl (l' := #[.val (.int p1), .val (.int p2), .val (.int p3), .val (.int p4), .val .null, .val .null, .val .null, .val (.int (1 : Int32)), .val .null, .val (.ref b1297), .val .null, .unset, .unset]) rfl ?_
            show Steps p.tables e below (T1307.setTop (mkF m 186 #[.val (.int p1), .val (.int p2), .val (.int p3), .val (.int p4), .val .null, .val .null, .val .null, .val (.int (1 : Int32)), .val .null, .val (.ref b1297), .val .null, .unset, .unset] [])) _
            refine XS.aload X1307.here hx rfl (hb hby at_186) rfl rfl ?_
            show Steps p.tables e below (T1307.setTop (mkF m 188 #[.val (.int p1), .val (.int p2), .val (.int p3), .val (.int p4), .val .null, .val .null, .val .null, .val (.int (1 : Int32)), .val .null, .val (.ref b1297), .val .null, .unset, .unset] [(.ref b1297)])) _
            refine st1308 _ ?_
            show Steps p.tables e below (T1308.setTop (mkF m 191 #[.val (.int p1), .val (.int p2), .val (.int p3), .val (.int p4), .val .null, .val .null, .val .null, .val (.int (1 : Int32)), .val .null, .val (.ref b1297), .val .null, .unset, .unset] [(.ref lf1), (.ref b1297)])) _
            refine st1309.trans ?_
            show Steps p.tables e below (T1309.setTop (mkF m 194 #[.val (.int p1), .val (.int p2), .val (.int p3), .val (.int p4), .val .null, .val .null, .val .null, .val (.int (1 : Int32)), .val .null, .val (.ref b1297), .val .null, .unset, .unset] [.null])) _
            refine XS.astore X1309.here hx rfl (hb hby at_194) rfl rfl (l' := #[.val (.int p1), .val (.int p2), .val (.int p3), .val (.int p4), .val .null, .val .null, .val .null, .val (.int (1 : Int32)), .val .null, .val (.ref b1297), .val .null, .val .null, .unset]) rfl ?_
            show Steps p.tables e below (T1309.setTop (mkF m 196 #[.val (.int p1), .val (.int p2), .val (.int p3), .val (.int p4), .val .null, .val .null, .val .null, .val (.int (1 : Int32)), .val .null, .val (.ref b1297), .val .null, .val .null, .unset] [])) _
            refine XS.aload X1309.here hx rfl (hb hby at_196) rfl rfl ?_
            show Steps p.tables e below (T1309.setTop (mkF m 198 #[.val (.int p1), .val (.int p2), .val (.int p3), .val (.int p4), .val .null, .val .null, .val .null, .val (.int (1 : Int32)), .val .null, .val (.ref b1297), .val .null, .val .null, .unset] [(.ref b1297)])) _
            refine st1310 _ ?_
            show Steps p.tables e below (T1310.setTop (mkF m 201 #[.val (.int p1), .val (.int p2), .val (.int p3), .val (.int p4), .val .null, .val .null, .val .null, .val (.int (1 : Int32)), .val .null, .val (.ref b1297), .val .null, .val .null, .unset] [(.ref lf2), (.ref b1297)])) _
            refine st1311.trans ?_
            show Steps p.tables e below (T1311.setTop (mkF m 204 #[.val (.int p1), .val (.int p2), .val (.int p3), .val (.int p4), .val .null, .val .null, .val .null, .val (.int (1 : Int32)), .val .null, .val (.ref b1297), .val .null, .val .null, .unset] [.null])) _
            refine XS.astore X1311.here hx rfl (hb hby at_204) rfl rfl (l' := #[.val (.int p1), .val (.int p2), .val (.int p3), .val (.int p4), .val .null, .val .null, .val .null, .val (.int (1 : Int32)), .val .null, .val (.ref b1297), .val .null, .val .null, .val .null]) rfl ?_
            show Steps p.tables e below (T1311.setTop (mkF m 206 #[.val (.int p1), .val (.int p2), .val (.int p3), .val (.int p4), .val .null, .val .null, .val .null, .val (.int (1 : Int32)), .val .null, .val (.ref b1297), .val .null, .val .null, .val .null] [])) _
            refine XS.iload X1311.here hx rfl (hb hby at_206) rfl ?_
            show Steps p.tables e below (T1311.setTop (mkF m 208 #[.val (.int p1), .val (.int p2), .val (.int p3), .val (.int p4), .val .null, .val .null, .val .null, .val (.int (1 : Int32)), .val .null, .val (.ref b1297), .val .null, .val .null, .val .null] [(.int (1 : Int32))])) _
            refine XS.ifNo X1311.here hx rfl (hb hby at_208) rfl ((if0 _ _).trans (feq (by decide : ¬ ((1 : Int32) = (0 : Int32)))).1) ?_
            show Steps p.tables e below (T1311.setTop (mkF m 211 #[.val (.int p1), .val (.int p2), .val (.int p3), .val (.int p4), .val .null, .val .null, .val .null, .val (.int (1 : Int32)), .val .null, .val (.ref b1297), .val .null, .val .null, .val .null] [])) _
            refine XS.aload X1311.here hx rfl (hb hby at_211) rfl rfl ?_
            show Steps p.tables e below (T1311.setTop (mkF m 213 #[.val (.int p1), .val (.int p2), .val (.int p3), .val (.int p4), .val .null, .val .null, .val .null, .val (.int (1 : Int32)), .val .null, .val (.ref b1297), .val .null, .val .null, .val .null] [.null])) _
            refine XS.ifnonnullNo X1311.here hx rfl (hb hby at_213) rfl ?_
            show Steps p.tables e below (T1311.setTop (mkF m 216 #[.val (.int p1), .val (.int p2), .val (.int p3), .val (.int p4), .val .null, .val .null, .val .null, .val (.int (1 : Int32)), .val .null, .val (.ref b1297), .val .null, .val .null, .val .null] [])) _
            refine XS.aload X1311.here hx rfl (hb hby at_216) rfl rfl ?_
            show Steps p.tables e below (T1311.setTop (mkF m 218 #[.val (.int p1), .val (.int p2), .val (.int p3), .val (.int p4), .val .null, .val .null, .val .null, .val (.int (1 : Int32)), .val .null, .val (.ref b1297), .val .null, .val .null, .val .null] [.null])) _
            refine XS.ifnonnullNo X1311.here hx rfl (hb hby at_218) rfl ?_
            show Steps p.tables e below (T1311.setTop (mkF m 221 #[.val (.int p1), .val (.int p2), .val (.int p3), .val (.int p4), .val .null, .val .null, .val .null, .val (.int (1 : Int32)), .val .null, .val (.ref b1297), .val .null, .val .null, .val .null] [])) _
            refine XS.aload X1311.here hx rfl (hb hby at_221) rfl rfl ?_
            show Steps p.tables e below (T1311.setTop (mkF m 223 #[.val (.int p1), .val (.int p2), .val (.int p3), .val (.int p4), .val .null, .val .null, .val .null, .val (.int (1 : Int32)), .val .null, .val (.ref b1297), .val .null, .val .null, .val .null] [.null])) _
            refine XS.ifnonnullNo X1311.here hx rfl (hb hby at_223) rfl ?_
            show Steps p.tables e below (T1311.setTop (mkF m 226 #[.val (.int p1), .val (.int p2), .val (.int p3), .val (.int p4), .val .null, .val .null, .val .null, .val (.int (1 : Int32)), .val .null, .val (.ref b1297), .val .null, .val .null, .val .null] [])) _
            refine XS.iconst X1311.here hx rfl (hb hby at_226) ?_
            show Steps p.tables e below (T1311.setTop (mkF m 227 #[.val (.int p1), .val (.int p2), .val (.int p3), .val (.int p4), .val .null, .val .null, .val .null, .val (.int (1 : Int32)), .val .null, .val (.ref b1297), .val .null, .val .null, .val .null] [(.int (1 : Int32))])) _
            refine XS.goto X1311.here hx rfl (pc0 := 227) (pc' := 231) rfl (hb hby at_227) (by decide) (by decide) ?_
            show Steps p.tables e below (T1311.setTop (mkF m 231 #[.val (.int p1), .val (.int p2), .val (.int p3), .val (.int p4), .val .null, .val .null, .val .null, .val (.int (1 : Int32)), .val .null, .val (.ref b1297), .val .null, .val .null, .val .null] [(.int (1 : Int32))])) _
            exact retN X1311 hx (t := .boolean) Bd.returns (by simp) (hb hby at_231) hr
          · show Q_rm0 Z p1 p2 p3 p4 cs lf0 lf1 lf2 h0 n0 _ T1311.heap _
            rw [H1311]
            exact ⟨rfl, N1311⟩
set_option maxRecDepth 65536 in
set_option maxHeartbeats 40000000 in
theorem comes_1 {Post : Tables → Env → Array Value → State → Outcome → State → Prop} (hpost : ∀ tb e args s v u, (limb_1_1.after args s (.returned v) u = true ∧ limb_1_2.after args s (.returned v) u = true ∧ True) → ReturnedEndW s (.returned v) u (Jvm.fieldLocs frame_1_writes args s ++ Jvm.arrayLocs frame_1_arrays args s ++ Jvm.staticLocs frame_1_statics s) 32 1152 → Post tb e args s (.returned v) u) :
    ArmFor flags0 classFile x code maxLocals ret World_1 tables_1 room_1 Calls_1 rest_1 Pre_1 Post := by
  intro l hfl _ _ p e ha hc hk s m args below hf hA hF happ hP
  obtain ⟨hcalls, hrest, hpre⟩ := hP
  obtain ⟨-, -, -, hnamed, -, -, -, hat⟩ := (Spec.applies_iff hf).mp happ
  obtain ⟨hg, hn⟩ := and_e (Cond.before_iff.mp (show (Jvm.Cond.and given_1 narrow_1).before args s = true from hpre))
  obtain ⟨gc, g0⟩ := and_e hg
  obtain ⟨ga0, g1⟩ := and_e g0
  obtain ⟨ga1, g2⟩ := and_e g1
  obtain ⟨ga2, g3⟩ := and_e g2
  have ga3 := g3
  obtain ⟨w0, w1, w2, w3, rfl⟩ : ∃ w0 w1 w2 w3 : Value, args = #[w0, w1, w2, w3] := by
    have hs : args.size = 4 := by simpa [Cond.value, given_1] using gc
    obtain ⟨L⟩ := args
    match L, hs with
    | [w0, w1, w2, w3], _ => exact ⟨w0, w1, w2, w3, rfl⟩
  obtain ⟨i0, ei0⟩ := is_v ga0
  obtain rfl : w0 = (.int i0) := Option.some.inj ei0
  obtain ⟨i1, ei1⟩ := is_v ga1
  obtain rfl : w1 = (.int i1) := Option.some.inj ei1
  obtain ⟨i2, ei2⟩ := is_v ga2
  obtain rfl : w2 = (.int i2) := Option.some.inj ei2
  obtain ⟨i3, ei3⟩ := is_v ga3
  obtain rfl : w3 = (.int i3) := Option.some.inj ei3
  have hw := fun d (hd : d ∈ tables_1) => atoms_spec (ws := Jvm.Cond.code x code maxLocals ret :: tables_1) hat d (List.mem_cons_of_mem _ hd)
  have hfit : Fit s := fun {y c} hc i hi => by
    obtain ⟨ha, rfl⟩ := Array.getElem?_eq_some_iff.mp hc
    have q := List.all_eq_true.mp ((Array.all_eq_true_iff_forall_mem.mp hF) _ (Array.getElem_mem ha)) i (List.mem_range.mpr hi)
    simpa [Array.getElem?_eq_getElem hi] using q
  obtain ⟨hsets, hown0⟩ := atoms_of _ (rest_1_c_eq ▸ (show rest_1_c.before _ s = true from hrest))
  have n5 := not_v (Cond.before_iff.mp (hsets _ (List.mem_of_getElem? (i := 2) rfl)))
  obtain ⟨cs, eCS⟩ := is_v (Cond.before_iff.mp (hsets _ (List.mem_of_getElem? (i := 1) rfl)))
  have S_CS : Sta s s.heap "java/lang/String" "COMPACT_STRINGS" "Z" (.int cs) := Sta.start eCS (Or.inl (hsets _ (List.mem_of_getElem? (i := 0) rfl)))
  have c_CS : ¬ (cs = (0 : Int32)) := gotF (Cond.eq_ints eCS (Term.int_eval (0))) n5
  obtain ⟨x0, y0⟩ := and_e hn
  obtain ⟨x1, y1⟩ := and_e y0
  obtain ⟨x2, y2⟩ := and_e y1
  obtain ⟨x3, y3⟩ := and_e y2
  obtain ⟨x4, x5⟩ := and_e y3
  obtain ⟨lf0, el0⟩ := exa_v x0
  have S_0 : Sta s s.heap "com/example/links_to_sitemap/linkstositemap/LinkField" "LASTMOD" "Lcom/example/links_to_sitemap/linkstositemap/LinkField;" (.ref lf0) := Sta.start el0 (Or.inr ⟨(tw hw 60 rfl), (tw hw 61 rfl)⟩)
  have E_0 : Exa s s.heap lf0 "com/example/links_to_sitemap/linkstositemap/LinkField" := Exa.start el0 x0
  have F_0 : Fld s s.heap lf0 "java/lang/Enum" "ordinal" "I" (.int (0 : Int32)) := own_fld el0 x1
  obtain ⟨lf1, el1⟩ := exa_v x2
  have S_1 : Sta s s.heap "com/example/links_to_sitemap/linkstositemap/LinkField" "CHANGEFREQ" "Lcom/example/links_to_sitemap/linkstositemap/LinkField;" (.ref lf1) := Sta.start el1 (Or.inr ⟨(tw hw 60 rfl), (tw hw 77 rfl)⟩)
  have E_1 : Exa s s.heap lf1 "com/example/links_to_sitemap/linkstositemap/LinkField" := Exa.start el1 x2
  have F_1 : Fld s s.heap lf1 "java/lang/Enum" "ordinal" "I" (.int (1 : Int32)) := own_fld el1 x3
  obtain ⟨lf2, el2⟩ := exa_v x4
  have S_2 : Sta s s.heap "com/example/links_to_sitemap/linkstositemap/LinkField" "PRIORITY" "Lcom/example/links_to_sitemap/linkstositemap/LinkField;" (.ref lf2) := Sta.start el2 (Or.inr ⟨(tw hw 60 rfl), (tw hw 79 rfl)⟩)
  have E_2 : Exa s s.heap lf2 "com/example/links_to_sitemap/linkstositemap/LinkField" := Exa.start el2 x4
  have F_2 : Fld s s.heap lf2 "java/lang/Enum" "ordinal" "I" (.int (2 : Int32)) := own_fld el2 x5
  obtain ⟨n, o, h1, h2, h3, _, L, rfl, ⟨rfl, N⟩, hq⟩ := rm0 l s _ hw tables_1 i0 i1 i2 i3 cs lf0 lf1 lf2 s.heap s.heap.size (Old.start s) S_CS c_CS S_0 E_0 F_0 S_1 E_1 F_1 S_2 E_2 F_2 p e ha hc hk s m _ below hf ((Spec.applies_iff_loose hf).mp happ).1 ⟨rfl, State.Warmed39.refl s, rfl⟩ trivial
  obtain ⟨q1, q2, q3, q4⟩ := hq
  refine ⟨n, _, h1, h2, h3, hpost _ _ _ _ _ _ ⟨Cond.after_iff.mpr rfl, Cond.after_iff.mpr (eq_i res_at (Term.int_eval (1)) rfl), trivial⟩ ⟨q1, q2, q3, (q4.sift fun y hy => Or.inr (N y hy)).mono (by decide) (by decide)⟩⟩
theorem main_1_1 : Claimed_1_1 := comes_1 fun _ _ _ _ _ _ h hF => ⟨h.1, hF⟩
theorem main_1_2 : Claimed_1_2 := comes_1 fun _ _ _ _ _ _ h hF => ⟨h.2.1, hF⟩
end Jvm.Pilot.@@N@@
namespace Jvm.Pilot.@@N@@
open Jvm Jvm.ClassFile Sem Op Lib Jvm.Free Jvm.Stand Jvm.Pilot.@@N@@.Jvm.D
/-! MADE BY PROGRAM (witnessworld.py) out of the Statement's table words and the real class files: 23 classes; the members and pool entries that the words name. The judged class is class 1, her method 2. -/
namespace start1
open Jvm.ClassFile
def u (s : String) : CpInfo := .utf8 (stringToUtf16 s)
/-- a pool by its gaps: so many unusable entries, then the entry; so many at the end -/
def gap : Nat → List CpInfo → List CpInfo
  | 0, r => r
  | n + 1, r => .unusable :: gap n r
def poolList (es : List (Nat × CpInfo)) (last : Nat) : List CpInfo := es.foldr (fun e r => gap e.1 (e.2 :: r)) (gap last [])
def pool (es : List (Nat × CpInfo)) (last : Nat) : Array CpInfo := ⟨poolList es last⟩
def fileOf (pool : Array CpInfo) (this : Nat) (attrs : Array Attribute := #[]) (ms : Array MethodInfo := #[]) (fl : Nat := 33) (sup : Nat := 0) (ifs : Array Nat := #[]) (fds : Array FieldInfo := #[]) : ClassFile where
  minorVersion := 0
  majorVersion := 65
  constantPool := pool
  accessFlags := fl
  thisClass := this
  superClass := sup
  interfaces := ifs
  fields := fds
  methods := ms
  attributes := attrs
def plain (name : String) (sup : Option ClassId) : Class where
  name := name
  kind := .ordinary
  loader := none
  accessFlags := 33
  super := sup
  interfaces := #[]
  cf := none
  fields := #[]
  methods := #[]
  instanceTypes := #[]
  staticTypes := #[]
  resolved := #[]
  callSites := []
  init := .initialized
  statics := none
  mirror := none

def pool0 : Array CpInfo := pool [(5, u "<init>"), (0, u "()V"), (1, .class_ 10), (1, u "java/lang/Object")] 113

def k0c0 : Code := { maxStack := 0, maxLocals := 1, code := object_method_1_code, exceptionTable := #[], attributes := #[] }
def k0m0 : Method := { name := "<init>", desc := "()V", sig := { parameters := [], returnType := none }, accessFlags := 1, code := some k0c0 }
/-- java/lang/Object -/
def k0 : Class := { plain "java/lang/Object" none with
  accessFlags := 33
  interfaces := #[]
  cf := some (fileOf pool0 8 #[] #[{ accessFlags := 1, nameIndex := 5, descriptorIndex := 6, attributes := #[] }] 33 0 #[] #[])
  fields := #[]
  methods := #[k0m0]
  instanceTypes := #[]
  staticTypes := #[]
  resolved := Array.replicate 124 none
  statics := none }

def pool1 : Array CpInfo := pool [(2, .class_ 4), (1, u "java/lang/Object"), (0, u "<init>"), (0, u "()V"), (0, .methodref 8 9), (0, .class_ 10), (0, .nameAndType 11 12), (0, u "java/lang/String"), (0, u "equals"), (0, u "(Ljava/lang/Object;)Z"), (0, .methodref 8 14), (0, .nameAndType 15 16), (0, u "valueOf"), (0, u "(C)Ljava/lang/String;"), (0, .methodref 8 18), (0, .nameAndType 5 19), (0, u "([C)V"), (0, .class_ 21), (0, u "com/example/links_to_sitemap/linkstositemap/SitemapFileWriter$Entry"), (0, .string 23), (0, u "https://example.com/"), (0, .methodref 20 25), (0, .nameAndType 5 26), (0, u "(Ljava/lang/String;[Ljava/lang/String;)V"), (0, .fieldref 28 29), (0, .class_ 30), (0, .nameAndType 31 32), (0, u "com/example/links_to_sitemap/linkstositemap/LinkField"), (0, u "LASTMOD"), (0, u "Lcom/example/links_to_sitemap/linkstositemap/LinkField;"), (0, .methodref 20 34), (0, .nameAndType 35 36), (0, u "field"), (0, u "(Lcom/example/links_to_sitemap/linkstositemap/LinkField;)Ljava/lang/String;"), (0, .fieldref 28 38), (0, .nameAndType 39 32), (0, u "CHANGEFREQ"), (0, .fieldref 28 41), (0, .nameAndType 42 32), (0, u "PRIORITY"), (0, .methodref 44 45), (0, .class_ 46), (0, .nameAndType 47 48), (0, u "com/example/links_to_sitemap/linkstositemap/EntryFieldPinLaw"), (0, u "same"), (0, u "(Ljava/lang/String;Ljava/lang/String;)Z"), (3, u "law"), (0, u "(IIII)Z")] 8

def k1m0 : Method := { name := "<init>", desc := "()V", sig := { parameters := [], returnType := none }, accessFlags := 1, code := none }
def k1c1 : Code := { maxStack := 2, maxLocals := 2, code := method_2_code, exceptionTable := #[], attributes := #[] }
def k1m1 : Method := { name := "same", desc := "(Ljava/lang/String;Ljava/lang/String;)Z", sig := { parameters := [(.object "java/lang/String"), (.object "java/lang/String")], returnType := some .boolean }, accessFlags := 10, code := some k1c1 }
def k1c2 : Code := { maxStack := 7, maxLocals := 13, code := code, exceptionTable := #[], attributes := #[] }
def k1m2 : Method := { name := "law", desc := "(IIII)Z", sig := { parameters := [.int, .int, .int, .int], returnType := some .boolean }, accessFlags := 9, code := some k1c2 }
/-- com/example/links_to_sitemap/linkstositemap/EntryFieldPinLaw -/
def k1 : Class := { plain "com/example/links_to_sitemap/linkstositemap/EntryFieldPinLaw" (some 0) with
  accessFlags := 49
  interfaces := #[]
  cf := some (fileOf pool1 44 #[] #[{ accessFlags := 1, nameIndex := 5, descriptorIndex := 6, attributes := #[] }, { accessFlags := 10, nameIndex := 47, descriptorIndex := 48, attributes := #[] }, { accessFlags := 9, nameIndex := 52, descriptorIndex := 53, attributes := #[] }] 49 2 #[] #[])
  fields := #[]
  methods := #[k1m0, k1m1, k1m2]
  instanceTypes := #[]
  staticTypes := #[]
  resolved := Array.replicate 62 none
  statics := none }

def pool2 : Array CpInfo := pool [(1, .class_ 2), (0, u "java/io/Serializable"), (0, .class_ 4), (0, u "java/lang/Object")] 2

/-- java/io/Serializable -/
def k2 : Class := { plain "java/io/Serializable" (some 0) with
  accessFlags := 1537
  interfaces := #[]
  cf := some (fileOf pool2 1 #[] #[] 1537 3 #[] #[])
  fields := #[]
  methods := #[]
  instanceTypes := #[]
  staticTypes := #[]
  resolved := Array.replicate 7 none
  statics := none }

def pool3 : Array CpInfo := pool [(1, .class_ 2), (0, u "java/lang/Comparable"), (0, .class_ 4), (0, u "java/lang/Object")] 7

/-- java/lang/Comparable -/
def k3 : Class := { plain "java/lang/Comparable" (some 0) with
  accessFlags := 1537
  interfaces := #[]
  cf := some (fileOf pool3 1 #[] #[] 1537 3 #[] #[])
  fields := #[]
  methods := #[]
  instanceTypes := #[]
  staticTypes := #[]
  resolved := Array.replicate 12 none
  statics := none }

def pool4 : Array CpInfo := pool [(2, .class_ 4), (1, u "java/lang/CharSequence"), (42, .class_ 48), (0, u "java/lang/CharSequence$1CodePointIterator"), (10, .class_ 60), (0, u "java/lang/CharSequence$1CharIterator"), (5, .class_ 67), (0, u "java/lang/Object")] 63

/-- java/lang/CharSequence -/
def k4 : Class := { plain "java/lang/CharSequence" (some 0) with
  accessFlags := 1537
  interfaces := #[]
  cf := some (fileOf pool4 2 #[.nestMembers #[47, 59]] #[] 1537 66 #[] #[])
  fields := #[]
  methods := #[]
  instanceTypes := #[]
  staticTypes := #[]
  resolved := Array.replicate 131 none
  statics := none }

def pool5 : Array CpInfo := pool [(1, .class_ 2), (0, u "java/lang/constant/Constable"), (0, .class_ 4), (0, u "java/lang/Object")] 6

/-- java/lang/constant/Constable -/
def k5 : Class := { plain "java/lang/constant/Constable" (some 0) with
  accessFlags := 1537
  interfaces := #[]
  cf := some (fileOf pool5 1 #[] #[] 1537 3 #[] #[])
  fields := #[]
  methods := #[]
  instanceTypes := #[]
  staticTypes := #[]
  resolved := Array.replicate 11 none
  statics := none }

def pool6 : Array CpInfo := pool [(1, .class_ 2), (0, u "java/lang/constant/ConstantDesc"), (0, .class_ 4), (0, u "java/lang/Object")] 32

/-- java/lang/constant/ConstantDesc -/
def k6 : Class := { plain "java/lang/constant/ConstantDesc" (some 0) with
  accessFlags := 1537
  interfaces := #[]
  cf := some (fileOf pool6 1 #[] #[] 1537 3 #[] #[])
  fields := #[]
  methods := #[]
  instanceTypes := #[]
  staticTypes := #[]
  resolved := Array.replicate 37 none
  statics := none }

def pool7 : Array CpInfo := pool [(1, .methodref 2 3), (0, .class_ 4), (0, .nameAndType 5 6), (0, u "java/lang/Object"), (0, u "<init>"), (0, u "()V"), (2, .fieldref 10 11), (0, .class_ 12), (0, .nameAndType 13 14), (0, u "java/lang/String"), (0, u "value"), (0, u "[B"), (0, .fieldref 10 16), (0, .nameAndType 17 18), (0, u "coder"), (0, u "B"), (2, u "hash"), (0, u "I"), (2, u "hashIsZero"), (0, u "Z"), (0, .methodref 10 28), (0, .nameAndType 5 29), (0, u "([CIILjava/lang/Void;)V"), (8, .fieldref 10 39), (0, .nameAndType 40 26), (0, u "COMPACT_STRINGS"), (1, .class_ 44), (1, u "java/lang/StringUTF16"), (0, u "compress"), (1, .methodref 42 48), (0, .nameAndType 49 50), (0, u "coderFromArrayLen"), (0, u "([BI)B"), (2, u "toBytes"), (53, .class_ 109), (1, u "java/lang/StringLatin1"), (67, .methodref 42 178), (0, .nameAndType 45 179), (0, u "([CII)[B"), (29, .methodref 10 210), (0, .nameAndType 5 211), (0, u "([BB)V"), (157, u "(C)Z"), (173, u "equals"), (29, u "(Ljava/lang/Object;)Z"), (1, .class_ 576), (0, u "java/lang/CharSequence"), (22, u "CASE_INSENSITIVE_ORDER"), (0, u "Ljava/util/Comparator;"), (181, u "valueOf"), (0, u "(C)Ljava/lang/String;"), (226, u "([C)V"), (4, .methodref 107 1016), (0, .nameAndType 1017 369), (0, u "canEncode"), (0, .methodref 107 1019), (0, .nameAndType 53 1020), (0, u "(C)[B"), (80, u "serialPersistentFields"), (0, u "[Ljava/io/ObjectStreamField;"), (0, .class_ 1104), (0, u "java/lang/String$CaseInsensitiveComparator"), (1, .class_ 1107), (0, u "java/io/Serializable"), (0, .class_ 1109), (0, u "java/lang/Comparable"), (0, .class_ 1111), (0, u "java/lang/constant/Constable"), (0, .class_ 1113), (0, u "java/lang/constant/ConstantDesc"), (2, u "serialVersionUID"), (0, u "J"), (3, u "REPL"), (0, u "C"), (2, u "LATIN1"), (1, u "UTF16")] 323

def k7m0 : Method := { name := "<init>", desc := "()V", sig := { parameters := [], returnType := none }, accessFlags := 1, code := none }
def k7c1 : Code := { maxStack := 5, maxLocals := 2, code := jdk_42_method_3_code, exceptionTable := #[], attributes := #[] }
def k7m1 : Method := { name := "<init>", desc := "([C)V", sig := { parameters := [(.array .char)], returnType := none }, accessFlags := 1, code := some k7c1 }
def k7c2 : Code := { maxStack := 2, maxLocals := 3, code := jdk_42_method_66_code, exceptionTable := #[], attributes := #[] }
def k7m2 : Method := { name := "equals", desc := "(Ljava/lang/Object;)Z", sig := { parameters := [(.object "java/lang/Object")], returnType := some .boolean }, accessFlags := 1, code := some k7c2 }
def k7c3 : Code := { maxStack := 4, maxLocals := 1, code := jdk_42_method_139_code, exceptionTable := #[], attributes := #[] }
def k7m3 : Method := { name := "valueOf", desc := "(C)Ljava/lang/String;", sig := { parameters := [.char], returnType := some (.object "java/lang/String") }, accessFlags := 9, code := some k7c3 }
def k7c4 : Code := { maxStack := 4, maxLocals := 6, code := jdk_42_method_149_code, exceptionTable := #[], attributes := #[] }
def k7m4 : Method := { name := "<init>", desc := "([CIILjava/lang/Void;)V", sig := { parameters := [(.array .char), .int, .int, (.object "java/lang/Void")], returnType := none }, accessFlags := 2, code := some k7c4 }
def k7c5 : Code := { maxStack := 2, maxLocals := 3, code := jdk_42_method_151_code, exceptionTable := #[], attributes := #[] }
def k7m5 : Method := { name := "<init>", desc := "([BB)V", sig := { parameters := [(.array .byte), .byte], returnType := none }, accessFlags := 0, code := some k7c5 }
/-- java/lang/String -/
def k7 : Class := { plain "java/lang/String" (some 0) with
  accessFlags := 49
  interfaces := #[2, 3, 4, 5, 6]
  cf := some (fileOf pool7 10 #[.nestMembers #[1103]] #[{ accessFlags := 1, nameIndex := 5, descriptorIndex := 6, attributes := #[] }, { accessFlags := 1, nameIndex := 5, descriptorIndex := 1010, attributes := #[] }, { accessFlags := 1, nameIndex := 543, descriptorIndex := 573, attributes := #[] }, { accessFlags := 9, nameIndex := 782, descriptorIndex := 783, attributes := #[] }, { accessFlags := 2, nameIndex := 5, descriptorIndex := 29, attributes := #[] }, { accessFlags := 0, nameIndex := 5, descriptorIndex := 211, attributes := #[] }] 49 2 #[1106, 1108, 575, 1110, 1112] #[{ accessFlags := 18, nameIndex := 13, descriptorIndex := 14, attributes := #[] }, { accessFlags := 18, nameIndex := 17, descriptorIndex := 18, attributes := #[] }, { accessFlags := 2, nameIndex := 21, descriptorIndex := 22, attributes := #[] }, { accessFlags := 2, nameIndex := 25, descriptorIndex := 26, attributes := #[] }, { accessFlags := 26, nameIndex := 1116, descriptorIndex := 1117, attributes := #[] }, { accessFlags := 24, nameIndex := 40, descriptorIndex := 26, attributes := #[] }, { accessFlags := 26, nameIndex := 1101, descriptorIndex := 1102, attributes := #[] }, { accessFlags := 26, nameIndex := 1121, descriptorIndex := 1122, attributes := #[] }, { accessFlags := 25, nameIndex := 599, descriptorIndex := 600, attributes := #[] }, { accessFlags := 24, nameIndex := 1125, descriptorIndex := 18, attributes := #[] }, { accessFlags := 24, nameIndex := 1127, descriptorIndex := 18, attributes := #[] }])
  fields := #[{ name := "value", type := (.array .byte), accessFlags := 18, slot := 0, constantValue := 0 }, { name := "coder", type := .byte, accessFlags := 18, slot := 1, constantValue := 0 }, { name := "hash", type := .int, accessFlags := 2, slot := 2, constantValue := 0 }, { name := "hashIsZero", type := .boolean, accessFlags := 2, slot := 3, constantValue := 0 }, { name := "serialVersionUID", type := .long, accessFlags := 26, slot := 0, constantValue := 0 }, { name := "COMPACT_STRINGS", type := .boolean, accessFlags := 24, slot := 1, constantValue := 0 }, { name := "serialPersistentFields", type := (.array (.object "java/io/ObjectStreamField")), accessFlags := 26, slot := 2, constantValue := 0 }, { name := "REPL", type := .char, accessFlags := 26, slot := 3, constantValue := 0 }, { name := "CASE_INSENSITIVE_ORDER", type := (.object "java/util/Comparator"), accessFlags := 25, slot := 4, constantValue := 0 }, { name := "LATIN1", type := .byte, accessFlags := 24, slot := 5, constantValue := 0 }, { name := "UTF16", type := .byte, accessFlags := 24, slot := 6, constantValue := 0 }]
  methods := #[k7m0, k7m1, k7m2, k7m3, k7m4, k7m5]
  instanceTypes := #[(.array .byte), .byte, .int, .boolean]
  staticTypes := #[.long, .boolean, (.array (.object "java/io/ObjectStreamField")), .char, (.object "java/util/Comparator"), .byte, .byte]
  resolved := Array.replicate 1451 none
  statics := some 0 }

def pool8 : Array CpInfo := pool [(4, .class_ 6), (1, u "java/lang/Object"), (0, u "<init>"), (0, u "()V"), (5, .class_ 16), (1, u "java/lang/StringLatin1"), (73, u "canEncode"), (14, u "(C)Z"), (15, u "$assertionsDisabled"), (0, u "Z"), (98, .class_ 223), (1, u "java/lang/StringLatin1$LinesSpliterator"), (156, u "toBytes"), (1, u "(C)[B"), (7, .class_ 391), (0, u "java/lang/StringLatin1$CharsSpliterator")] 3

def k8m0 : Method := { name := "<init>", desc := "()V", sig := { parameters := [], returnType := none }, accessFlags := 0, code := none }
def k8c1 : Code := { maxStack := 2, maxLocals := 1, code := jdk_43_method_3_code, exceptionTable := #[], attributes := #[] }
def k8m1 : Method := { name := "canEncode", desc := "(C)Z", sig := { parameters := [.char], returnType := some .boolean }, accessFlags := 9, code := some k8c1 }
def k8c2 : Code := { maxStack := 4, maxLocals := 1, code := jdk_43_method_46_code, exceptionTable := #[], attributes := #[] }
def k8m2 : Method := { name := "toBytes", desc := "(C)[B", sig := { parameters := [.char], returnType := some (.array .byte) }, accessFlags := 9, code := some k8c2 }
/-- java/lang/StringLatin1 -/
def k8 : Class := { plain "java/lang/StringLatin1" (some 0) with
  accessFlags := 48
  interfaces := #[]
  cf := some (fileOf pool8 14 #[.nestMembers #[390, 221]] #[{ accessFlags := 0, nameIndex := 7, descriptorIndex := 8, attributes := #[] }, { accessFlags := 9, nameIndex := 90, descriptorIndex := 105, attributes := #[] }, { accessFlags := 9, nameIndex := 380, descriptorIndex := 382, attributes := #[] }] 48 4 #[] #[{ accessFlags := 4120, nameIndex := 121, descriptorIndex := 122, attributes := #[] }])
  fields := #[{ name := "$assertionsDisabled", type := .boolean, accessFlags := 4120, slot := 0, constantValue := 0 }]
  methods := #[k8m0, k8m1, k8m2]
  instanceTypes := #[]
  staticTypes := #[.boolean]
  resolved := Array.replicate 395 none
  statics := none }

def pool9 : Array CpInfo := pool [(6, .class_ 8), (1, u "java/lang/Object"), (0, u "<init>"), (0, u "()V"), (1, .class_ 14), (1, u "java/lang/StringUTF16"), (31, u "$assertionsDisabled"), (0, u "Z"), (13, u "HI_BYTE_SHIFT"), (0, u "I"), (2, u "LO_BYTE_SHIFT"), (49, .methodref 12 116), (0, .nameAndType 117 118), (0, u "compress"), (0, u "([CI[BII)I"), (3, u "([CII)[B"), (138, u "coderFromArrayLen"), (0, u "([BI)B"), (106, .class_ 371), (1, u "java/lang/StringUTF16$LinesSpliterator"), (58, u "MAX_LENGTH"), (196, .class_ 628), (0, u "java/lang/StringUTF16$CodePointsSpliterator"), (0, .class_ 630), (0, u "java/lang/StringUTF16$CharsSpliterator")] 4

def k9m0 : Method := { name := "<init>", desc := "()V", sig := { parameters := [], returnType := none }, accessFlags := 0, code := none }
def k9c1 : Code := { maxStack := 2, maxLocals := 2, code := jdk_52_method_15_code, exceptionTable := #[], attributes := #[] }
def k9m1 : Method := { name := "coderFromArrayLen", desc := "([BI)B", sig := { parameters := [(.array .byte), .int], returnType := some .byte }, accessFlags := 8, code := some k9c1 }
def k9c2 : Code := { maxStack := 5, maxLocals := 6, code := jdk_52_method_16_code, exceptionTable := #[], attributes := #[] }
def k9m2 : Method := { name := "compress", desc := "([CII)[B", sig := { parameters := [(.array .char), .int, .int], returnType := some (.array .byte) }, accessFlags := 9, code := some k9c2 }
def k9c3 : Code := { maxStack := 3, maxLocals := 7, code := jdk_52_method_21_code, exceptionTable := #[], attributes := #[] }
def k9m3 : Method := { name := "compress", desc := "([CI[BII)I", sig := { parameters := [(.array .char), .int, (.array .byte), .int, .int], returnType := some .int }, accessFlags := 9, code := some k9c3 }
/-- java/lang/StringUTF16 -/
def k9 : Class := { plain "java/lang/StringUTF16" (some 0) with
  accessFlags := 48
  interfaces := #[]
  cf := some (fileOf pool9 12 #[.nestMembers #[627, 629, 369]] #[{ accessFlags := 0, nameIndex := 9, descriptorIndex := 10, attributes := #[] }, { accessFlags := 8, nameIndex := 261, descriptorIndex := 262, attributes := #[] }, { accessFlags := 9, nameIndex := 117, descriptorIndex := 122, attributes := #[] }, { accessFlags := 9, nameIndex := 117, descriptorIndex := 118, attributes := #[] }] 48 6 #[] #[{ accessFlags := 26, nameIndex := 61, descriptorIndex := 62, attributes := #[] }, { accessFlags := 26, nameIndex := 65, descriptorIndex := 62, attributes := #[] }, { accessFlags := 24, nameIndex := 430, descriptorIndex := 62, attributes := #[] }, { accessFlags := 4120, nameIndex := 46, descriptorIndex := 47, attributes := #[] }])
  fields := #[{ name := "HI_BYTE_SHIFT", type := .int, accessFlags := 26, slot := 0, constantValue := 0 }, { name := "LO_BYTE_SHIFT", type := .int, accessFlags := 26, slot := 1, constantValue := 0 }, { name := "MAX_LENGTH", type := .int, accessFlags := 24, slot := 2, constantValue := 0 }, { name := "$assertionsDisabled", type := .boolean, accessFlags := 4120, slot := 3, constantValue := 0 }]
  methods := #[k9m0, k9m1, k9m2, k9m3]
  instanceTypes := #[]
  staticTypes := #[.int, .int, .int, .boolean]
  resolved := Array.replicate 635 none
  statics := none }

def pool10 : Array CpInfo := pool [(2, .class_ 4), (1, u "com/example/links_to_sitemap/linkstositemap/SitemapFileWriter$Entry"), (0, u "<init>"), (0, u "(Ljava/lang/String;[Ljava/lang/String;)V"), (0, .methodref 8 9), (0, .class_ 10), (0, .nameAndType 5 11), (0, u "java/lang/Object"), (0, u "()V"), (0, .fieldref 2 13), (0, .nameAndType 14 15), (0, u "loc"), (0, u "Ljava/lang/String;"), (0, .fieldref 2 17), (0, .nameAndType 18 19), (0, u "fields"), (0, u "[Ljava/lang/String;"), (0, .methodref 21 22), (0, .class_ 23), (0, .nameAndType 24 25), (0, u "com/example/links_to_sitemap/linkstositemap/LinkField"), (0, u "ordinal"), (0, u "()I"), (3, u "field"), (0, u "(Lcom/example/links_to_sitemap/linkstositemap/LinkField;)Ljava/lang/String;"), (6, .class_ 38), (0, u "com/example/links_to_sitemap/linkstositemap/SitemapFileWriter")] 2

def k10c0 : Code := { maxStack := 2, maxLocals := 3, code := prog_22_method_2_code, exceptionTable := #[], attributes := #[] }
def k10m0 : Method := { name := "<init>", desc := "(Ljava/lang/String;[Ljava/lang/String;)V", sig := { parameters := [(.object "java/lang/String"), (.array (.object "java/lang/String"))], returnType := none }, accessFlags := 0, code := some k10c0 }
def k10c1 : Code := { maxStack := 2, maxLocals := 2, code := prog_22_method_3_code, exceptionTable := #[], attributes := #[] }
def k10m1 : Method := { name := "field", desc := "(Lcom/example/links_to_sitemap/linkstositemap/LinkField;)Ljava/lang/String;", sig := { parameters := [(.object "com/example/links_to_sitemap/linkstositemap/LinkField")], returnType := some (.object "java/lang/String") }, accessFlags := 0, code := some k10c1 }
/-- com/example/links_to_sitemap/linkstositemap/SitemapFileWriter$Entry -/
def k10 : Class := { plain "com/example/links_to_sitemap/linkstositemap/SitemapFileWriter$Entry" (some 0) with
  accessFlags := 32
  interfaces := #[]
  cf := some (fileOf pool10 2 #[.nestHost 37] #[{ accessFlags := 0, nameIndex := 5, descriptorIndex := 6, attributes := #[] }, { accessFlags := 0, nameIndex := 29, descriptorIndex := 30, attributes := #[] }] 32 8 #[] #[{ accessFlags := 18, nameIndex := 14, descriptorIndex := 15, attributes := #[] }, { accessFlags := 18, nameIndex := 18, descriptorIndex := 19, attributes := #[] }])
  fields := #[{ name := "loc", type := (.object "java/lang/String"), accessFlags := 18, slot := 0, constantValue := 0 }, { name := "fields", type := (.array (.object "java/lang/String")), accessFlags := 18, slot := 1, constantValue := 0 }]
  methods := #[k10m0, k10m1]
  instanceTypes := #[(.object "java/lang/String"), (.array (.object "java/lang/String"))]
  staticTypes := #[]
  resolved := Array.replicate 41 none
  statics := none }

def pool11 : Array CpInfo := pool [(2, .class_ 4), (1, u "java/lang/Enum"), (0, u "name"), (0, u "Ljava/lang/String;"), (0, .fieldref 2 8), (0, .nameAndType 9 10), (0, u "ordinal"), (0, u "I"), (1, .class_ 14), (1, u "java/lang/Object"), (4, u "hash"), (86, .class_ 108), (1, u "java/lang/Enum$EnumDesc"), (2, .class_ 112), (0, u "java/lang/constant/Constable"), (0, .class_ 114), (0, u "java/lang/Comparable"), (0, .class_ 116), (0, u "java/io/Serializable"), (9, u "()I")] 77

def k11c0 : Code := { maxStack := 1, maxLocals := 1, code := jdk_37_method_2_code, exceptionTable := #[], attributes := #[] }
def k11m0 : Method := { name := "ordinal", desc := "()I", sig := { parameters := [], returnType := some .int }, accessFlags := 17, code := some k11c0 }
/-- java/lang/Enum -/
def k11 : Class := { plain "java/lang/Enum" (some 0) with
  accessFlags := 1057
  interfaces := #[5, 3, 2]
  cf := some (fileOf pool11 2 #[.nestMembers #[106]] #[{ accessFlags := 17, nameIndex := 9, descriptorIndex := 126, attributes := #[] }] 1057 12 #[111, 113, 115] #[{ accessFlags := 18, nameIndex := 5, descriptorIndex := 6, attributes := #[] }, { accessFlags := 18, nameIndex := 9, descriptorIndex := 10, attributes := #[] }, { accessFlags := 2, nameIndex := 19, descriptorIndex := 10, attributes := #[] }])
  fields := #[{ name := "name", type := (.object "java/lang/String"), accessFlags := 18, slot := 0, constantValue := 0 }, { name := "ordinal", type := .int, accessFlags := 18, slot := 1, constantValue := 0 }, { name := "hash", type := .int, accessFlags := 2, slot := 2, constantValue := 0 }]
  methods := #[k11m0]
  instanceTypes := #[(.object "java/lang/String"), .int, .int]
  staticTypes := #[]
  resolved := Array.replicate 204 none
  statics := none }

def pool12 : Array CpInfo := pool [(1, .class_ 2), (0, u "com/example/links_to_sitemap/linkstositemap/LinkField"), (2, u "LASTMOD"), (0, u "Lcom/example/links_to_sitemap/linkstositemap/LinkField;"), (2, u "CHANGEFREQ"), (2, u "PRIORITY"), (2, u "$VALUES"), (0, u "[Lcom/example/links_to_sitemap/linkstositemap/LinkField;"), (6, .class_ 25), (1, u "java/lang/Enum"), (8, u "label"), (0, u "Ljava/lang/String;")] 64

/-- com/example/links_to_sitemap/linkstositemap/LinkField -/
def k12 : Class := { plain "com/example/links_to_sitemap/linkstositemap/LinkField" (some 11) with
  accessFlags := 16433
  interfaces := #[]
  cf := some (fileOf pool12 1 #[] #[] 16433 23 #[] #[{ accessFlags := 16409, nameIndex := 5, descriptorIndex := 6, attributes := #[] }, { accessFlags := 16409, nameIndex := 9, descriptorIndex := 6, attributes := #[] }, { accessFlags := 16409, nameIndex := 12, descriptorIndex := 6, attributes := #[] }, { accessFlags := 18, nameIndex := 34, descriptorIndex := 35, attributes := #[] }, { accessFlags := 4122, nameIndex := 15, descriptorIndex := 16, attributes := #[] }])
  fields := #[{ name := "LASTMOD", type := (.object "com/example/links_to_sitemap/linkstositemap/LinkField"), accessFlags := 16409, slot := 0, constantValue := 0 }, { name := "CHANGEFREQ", type := (.object "com/example/links_to_sitemap/linkstositemap/LinkField"), accessFlags := 16409, slot := 1, constantValue := 0 }, { name := "PRIORITY", type := (.object "com/example/links_to_sitemap/linkstositemap/LinkField"), accessFlags := 16409, slot := 2, constantValue := 0 }, { name := "label", type := (.object "java/lang/String"), accessFlags := 18, slot := 3, constantValue := 0 }, { name := "$VALUES", type := (.array (.object "com/example/links_to_sitemap/linkstositemap/LinkField")), accessFlags := 4122, slot := 3, constantValue := 0 }]
  methods := #[]
  instanceTypes := #[(.object "java/lang/String"), .int, .int, (.object "java/lang/String")]
  staticTypes := #[(.object "com/example/links_to_sitemap/linkstositemap/LinkField"), (.object "com/example/links_to_sitemap/linkstositemap/LinkField"), (.object "com/example/links_to_sitemap/linkstositemap/LinkField"), (.array (.object "com/example/links_to_sitemap/linkstositemap/LinkField"))]
  resolved := Array.replicate 100 none
  statics := some 1 }

def pool13 : Array CpInfo := pool [(2, .class_ 4), (1, u "java/lang/Object"), (0, u "<init>"), (0, u "()V"), (17, .class_ 26), (1, u "jdk/internal/util/Preconditions"), (28, .class_ 56), (0, u "jdk/internal/util/Preconditions$4"), (57, .class_ 115), (0, u "jdk/internal/util/Preconditions$1"), (7, u "SIOOBE_FORMATTER"), (0, u "Ljava/util/function/BiFunction;"), (0, .class_ 126), (0, u "jdk/internal/util/Preconditions$2"), (3, u "AIOOBE_FORMATTER"), (0, .class_ 132), (0, u "jdk/internal/util/Preconditions$3"), (3, u "IOOBE_FORMATTER")] 57

def k13m0 : Method := { name := "<init>", desc := "()V", sig := { parameters := [], returnType := none }, accessFlags := 1, code := none }
/-- jdk/internal/util/Preconditions -/
def k13 : Class := { plain "jdk/internal/util/Preconditions" (some 0) with
  accessFlags := 33
  interfaces := #[]
  cf := some (fileOf pool13 24 #[.nestMembers #[55, 131, 125, 114]] #[{ accessFlags := 1, nameIndex := 5, descriptorIndex := 6, attributes := #[] }] 33 2 #[] #[{ accessFlags := 25, nameIndex := 123, descriptorIndex := 124, attributes := #[] }, { accessFlags := 25, nameIndex := 130, descriptorIndex := 124, attributes := #[] }, { accessFlags := 25, nameIndex := 136, descriptorIndex := 124, attributes := #[] }])
  fields := #[{ name := "SIOOBE_FORMATTER", type := (.object "java/util/function/BiFunction"), accessFlags := 25, slot := 0, constantValue := 0 }, { name := "AIOOBE_FORMATTER", type := (.object "java/util/function/BiFunction"), accessFlags := 25, slot := 1, constantValue := 0 }, { name := "IOOBE_FORMATTER", type := (.object "java/util/function/BiFunction"), accessFlags := 25, slot := 2, constantValue := 0 }]
  methods := #[k13m0]
  instanceTypes := #[]
  staticTypes := #[(.object "java/util/function/BiFunction"), (.object "java/util/function/BiFunction"), (.object "java/util/function/BiFunction")]
  resolved := Array.replicate 194 none
  statics := some 2 }

def pool14 : Array CpInfo := pool [(9, u "<init>"), (6, .class_ 18), (1, u "java/lang/Object"), (0, u "()V"), (1, .class_ 23), (1, u "jdk/internal/util/ArraysSupport"), (0, u "LOG2_ARRAY_LONG_INDEX_SCALE"), (0, u "I"), (2, u "U"), (0, u "Ljdk/internal/misc/Unsafe;"), (8, u "BIG_ENDIAN"), (0, u "Z"), (8, u "LOG2_BYTE_BIT_SIZE"), (4, u "LOG2_ARRAY_INT_INDEX_SCALE"), (54, u "JLA"), (0, u "Ljdk/internal/access/JavaLangAccess;"), (11, u "LOG2_ARRAY_BOOLEAN_INDEX_SCALE"), (9, u "LOG2_ARRAY_BYTE_INDEX_SCALE"), (5, u "LOG2_ARRAY_CHAR_INDEX_SCALE"), (5, u "LOG2_ARRAY_SHORT_INDEX_SCALE"), (18, u "LOG2_ARRAY_FLOAT_INDEX_SCALE"), (24, u "LOG2_ARRAY_DOUBLE_INDEX_SCALE"), (89, u "T_BOOLEAN"), (2, u "T_CHAR"), (1, u "T_FLOAT"), (1, u "T_DOUBLE"), (1, u "T_BYTE"), (1, u "T_SHORT"), (1, u "T_INT"), (1, u "T_LONG"), (1, u "SOFT_MAX_ARRAY_LENGTH")] 83

def k14m0 : Method := { name := "<init>", desc := "()V", sig := { parameters := [], returnType := none }, accessFlags := 2, code := none }
/-- jdk/internal/util/ArraysSupport -/
def k14 : Class := { plain "jdk/internal/util/ArraysSupport" (some 0) with
  accessFlags := 33
  interfaces := #[]
  cf := some (fileOf pool14 21 #[] #[{ accessFlags := 2, nameIndex := 9, descriptorIndex := 19, attributes := #[] }] 33 16 #[] #[{ accessFlags := 24, nameIndex := 28, descriptorIndex := 29, attributes := #[] }, { accessFlags := 26, nameIndex := 38, descriptorIndex := 39, attributes := #[] }, { accessFlags := 25, nameIndex := 121, descriptorIndex := 25, attributes := #[] }, { accessFlags := 25, nameIndex := 131, descriptorIndex := 25, attributes := #[] }, { accessFlags := 25, nameIndex := 137, descriptorIndex := 25, attributes := #[] }, { accessFlags := 25, nameIndex := 143, descriptorIndex := 25, attributes := #[] }, { accessFlags := 25, nameIndex := 53, descriptorIndex := 25, attributes := #[] }, { accessFlags := 25, nameIndex := 24, descriptorIndex := 25, attributes := #[] }, { accessFlags := 25, nameIndex := 162, descriptorIndex := 25, attributes := #[] }, { accessFlags := 25, nameIndex := 187, descriptorIndex := 25, attributes := #[] }, { accessFlags := 26, nameIndex := 48, descriptorIndex := 25, attributes := #[] }, { accessFlags := 25, nameIndex := 277, descriptorIndex := 25, attributes := #[] }, { accessFlags := 25, nameIndex := 280, descriptorIndex := 25, attributes := #[] }, { accessFlags := 25, nameIndex := 282, descriptorIndex := 25, attributes := #[] }, { accessFlags := 25, nameIndex := 284, descriptorIndex := 25, attributes := #[] }, { accessFlags := 25, nameIndex := 286, descriptorIndex := 25, attributes := #[] }, { accessFlags := 25, nameIndex := 288, descriptorIndex := 25, attributes := #[] }, { accessFlags := 25, nameIndex := 290, descriptorIndex := 25, attributes := #[] }, { accessFlags := 25, nameIndex := 292, descriptorIndex := 25, attributes := #[] }, { accessFlags := 26, nameIndex := 108, descriptorIndex := 109, attributes := #[] }, { accessFlags := 25, nameIndex := 294, descriptorIndex := 25, attributes := #[] }])
  fields := #[{ name := "U", type := (.object "jdk/internal/misc/Unsafe"), accessFlags := 24, slot := 0, constantValue := 0 }, { name := "BIG_ENDIAN", type := .boolean, accessFlags := 26, slot := 1, constantValue := 0 }, { name := "LOG2_ARRAY_BOOLEAN_INDEX_SCALE", type := .int, accessFlags := 25, slot := 2, constantValue := 0 }, { name := "LOG2_ARRAY_BYTE_INDEX_SCALE", type := .int, accessFlags := 25, slot := 3, constantValue := 0 }, { name := "LOG2_ARRAY_CHAR_INDEX_SCALE", type := .int, accessFlags := 25, slot := 4, constantValue := 0 }, { name := "LOG2_ARRAY_SHORT_INDEX_SCALE", type := .int, accessFlags := 25, slot := 5, constantValue := 0 }, { name := "LOG2_ARRAY_INT_INDEX_SCALE", type := .int, accessFlags := 25, slot := 6, constantValue := 0 }, { name := "LOG2_ARRAY_LONG_INDEX_SCALE", type := .int, accessFlags := 25, slot := 7, constantValue := 0 }, { name := "LOG2_ARRAY_FLOAT_INDEX_SCALE", type := .int, accessFlags := 25, slot := 8, constantValue := 0 }, { name := "LOG2_ARRAY_DOUBLE_INDEX_SCALE", type := .int, accessFlags := 25, slot := 9, constantValue := 0 }, { name := "LOG2_BYTE_BIT_SIZE", type := .int, accessFlags := 26, slot := 10, constantValue := 0 }, { name := "T_BOOLEAN", type := .int, accessFlags := 25, slot := 11, constantValue := 0 }, { name := "T_CHAR", type := .int, accessFlags := 25, slot := 12, constantValue := 0 }, { name := "T_FLOAT", type := .int, accessFlags := 25, slot := 13, constantValue := 0 }, { name := "T_DOUBLE", type := .int, accessFlags := 25, slot := 14, constantValue := 0 }, { name := "T_BYTE", type := .int, accessFlags := 25, slot := 15, constantValue := 0 }, { name := "T_SHORT", type := .int, accessFlags := 25, slot := 16, constantValue := 0 }, { name := "T_INT", type := .int, accessFlags := 25, slot := 17, constantValue := 0 }, { name := "T_LONG", type := .int, accessFlags := 25, slot := 18, constantValue := 0 }, { name := "JLA", type := (.object "jdk/internal/access/JavaLangAccess"), accessFlags := 26, slot := 19, constantValue := 0 }, { name := "SOFT_MAX_ARRAY_LENGTH", type := .int, accessFlags := 25, slot := 20, constantValue := 0 }]
  methods := #[k14m0]
  instanceTypes := #[]
  staticTypes := #[(.object "jdk/internal/misc/Unsafe"), .boolean, .int, .int, .int, .int, .int, .int, .int, .int, .int, .int, .int, .int, .int, .int, .int, .int, .int, (.object "jdk/internal/access/JavaLangAccess"), .int]
  resolved := Array.replicate 378 none
  statics := none }

def pool15 : Array CpInfo := pool [(1, u "java/lang/Cloneable"), (0, .class_ 1), (0, u "java/lang/Object"), (0, .class_ 3)] 3

/-- java/lang/Cloneable -/
def k15 : Class := { plain "java/lang/Cloneable" (some 0) with
  accessFlags := 1537
  interfaces := #[]
  cf := some (fileOf pool15 2 #[] #[] 1537 4 #[] #[])
  fields := #[]
  methods := #[]
  instanceTypes := #[]
  staticTypes := #[]
  resolved := Array.replicate 8 none
  statics := none }

/-- the primitive byte -/
def k16 : Class := { plain "byte" none with kind := .primitive 'B', accessFlags := 0x411 }
/-- [B -/
def k17 : Class := { plain "[B" (some 0) with kind := .array 16 .byte, interfaces := #[15, 2], accessFlags := 1041 }

/-- the primitive char -/
def k18 : Class := { plain "char" none with kind := .primitive 'C', accessFlags := 0x411 }
/-- [C -/
def k19 : Class := { plain "[C" (some 0) with kind := .array 18 .char, interfaces := #[15, 2], accessFlags := 1041 }

/-- the primitive int -/
def k20 : Class := { plain "int" none with kind := .primitive 'I', accessFlags := 0x411 }
/-- [I -/
def k21 : Class := { plain "[I" (some 0) with kind := .array 20 .int, interfaces := #[15, 2], accessFlags := 1041 }

/-- [Ljava/lang/String; -/
def k22 : Class := { plain "[Ljava/lang/String;" (some 0) with kind := .array 7 (.object "java/lang/String"), interfaces := #[15, 2], accessFlags := 1041 }

def heap : Heap := #[{ cls := 7, slots := #[.long 0, .int 1, .null, .int 0, .null, .int 0, .int 0], vm := .statics 7 },
  { cls := 12, slots := #[.ref 3, .ref 4, .ref 5, .null], vm := .statics 12 },
  { cls := 13, slots := #[.null, .null, .null], vm := .statics 13 },
  { cls := 12, slots := #[.null, .int 0, .int 0, .null], vm := .none },
  { cls := 12, slots := #[.null, .int 1, .int 0, .null], vm := .none },
  { cls := 12, slots := #[.null, .int 2, .int 0, .null], vm := .none }]
def classes : Array Class := #[k0, k1, k2, k3, k4, k5, k6, k7, k8, k9, k10, k11, k12, k13, k14, k15, k16, k17, k18, k19, k20, k21, k22]
def interned : List (Array UInt16 × Addr) := []
def slotsUsed : Nat := 26
def theMethod : MethodId := ⟨1, 2⟩
def args0 : Array Value := #[.int 0, .int 97, .int 25185, .int 6513249]
def aboutOver (below : List Frame) : State where
  vm := { classes := classes, interned := interned.toArray }
  heap := heap
  slotsUsed := slotsUsed
  threads := #[{ frames := .invoking theMethod args0 :: below }]
def below0 : List Frame := [.native { method := ⟨0, 0⟩, args := #[] }]
def about1 : State := aboutOver below0
def p0 : Program := .bare "" "" ""
def e0 : Env := launch0.env 0 0 0
theorem w_frames : about1.frames = Frame.invoking theMethod args0 :: below0 := rfl
set_option maxRecDepth 65536 in
theorem w_args : argsFit about1.vm theMethod args0 = true := by decide +kernel
set_option maxRecDepth 65536 in
theorem w_heap : heapFits about1 = true := by decide +kernel
set_option maxRecDepth 65536 in
theorem w_runnable : about1.curStatus? = some .runnable := by decide +kernel
set_option maxRecDepth 65536 in
theorem w_alone : about1.alone = true := by decide +kernel
set_option maxRecDepth 65536 in
theorem w_named : about1.methodNamed? x = some theMethod := by decide +kernel
set_option maxRecDepth 65536 in
theorem w_hears : about1.hears theMethod below0 = true := by decide +kernel
set_option maxRecDepth 65536 in
theorem w_ripe : about1.ripe theMethod args0 below0 = true := by decide +kernel
theorem w_running : about1.status = .running := rfl
set_option maxRecDepth 65536 in
theorem w_room : about1.hasRoom e0.platform room_1 = true :=
  launch0.hasRoom_least _ room_1 (by decide +kernel) (by decide +kernel) (by decide +kernel) (by decide +kernel) (by decide +kernel) (by decide +kernel)
theorem allAtoms_all (ts : List Jvm.Cond) (a : Array Jvm.Value) (st : Jvm.State) : (allAtoms ts).before a st = ts.all (fun c => c.before a st) := by
  induction ts with
  | nil => rfl
  | cons c t ih =>
    show (Jvm.Cond.and c (allAtoms t)).before a st = _
    rw [Jvm.Cond.before_and, ih, List.all_cons]
def words1 : List Jvm.Cond := Jvm.Cond.code x code maxLocals ret :: tables_1
/-- a 'code' word, met by the world's own term for the bytes: nothing is compared byte by byte -/
theorem code_word {y : MethodName} {bytes : ByteArray} {mx : Nat} {rt : Option FieldType} {a : Array Value} {s : State} {m : MethodId} {meth : Method} {c : Code} (h1 : s.methodNamed? y = some m) (h2 : s.vm.method? m = some meth) (h3 : meth.code = some c) (h4 : c.code = bytes)
    (h5 : (c.maxLocals == mx && c.exceptionTable.isEmpty && decide (c.maxStack ≤ mostOperands) && decide (meth.sig.returnType = rt) && !meth.locks && decide (parseMethodDescriptor y.desc = some meth.sig)) = true) : (Jvm.Cond.code y bytes mx rt).before a s = true := by
  simp only [Bool.and_eq_true, beq_iff_eq, Bool.not_eq_true', decide_eq_true_eq] at h5
  obtain ⟨⟨⟨⟨⟨g1, g2⟩, g3⟩, g4⟩, g5⟩, g6⟩ := h5
  simp [Cond.before, Cond.holds, Cond.value, h1, h2, h3, h4, g1, g2, g3, g4, g5, g6]
def isCode : Jvm.Cond → Bool
  | .code _ _ _ _ => true
  | _ => false
theorem all_split {L : List Jvm.Cond} {P : Jvm.Cond → Bool} (h1 : L.all (fun c => isCode c || P c) = true) (h2 : ∀ c ∈ L.filter isCode, P c = true) : L.all P = true := by
  refine List.all_eq_true.mpr fun c hc => ?_
  have h := List.all_eq_true.mp h1 c hc
  rcases Bool.eq_false_or_eq_true (isCode c) with hi | hi
  · exact h2 c (List.mem_filter.mpr ⟨hc, hi⟩)
  · simpa [hi] using h
set_option maxRecDepth 65536 in
theorem w_c0 : (Jvm.Cond.code x code maxLocals ret).before args0 about1 = true := code_word (m := ⟨1, 2⟩) (meth := k1m2) (c := k1c2) (by decide +kernel) rfl rfl rfl (by decide +kernel)
set_option maxRecDepth 65536 in
theorem w_c1 : (Jvm.Cond.code ({ cls := "java/lang/String", name := "valueOf", desc := "(C)Ljava/lang/String;" } : Jvm.MethodName) jdk_42_method_139_code (1 : Nat) (Option.some (Jvm.ClassFile.FieldType.object "java/lang/String"))).before args0 about1 = true := code_word (m := ⟨7, 3⟩) (meth := k7m3) (c := k7c3) (by decide +kernel) rfl rfl rfl (by decide +kernel)
set_option maxRecDepth 65536 in
theorem w_c2 : (Jvm.Cond.code ({ cls := "java/lang/StringLatin1", name := "canEncode", desc := "(C)Z" } : Jvm.MethodName) jdk_43_method_3_code (1 : Nat) (Option.some Jvm.ClassFile.FieldType.boolean)).before args0 about1 = true := code_word (m := ⟨8, 1⟩) (meth := k8m1) (c := k8c1) (by decide +kernel) rfl rfl rfl (by decide +kernel)
set_option maxRecDepth 65536 in
theorem w_c3 : (Jvm.Cond.code ({ cls := "java/lang/StringLatin1", name := "toBytes", desc := "(C)[B" } : Jvm.MethodName) jdk_43_method_46_code (1 : Nat) (Option.some (Jvm.ClassFile.FieldType.array Jvm.ClassFile.FieldType.byte))).before args0 about1 = true := code_word (m := ⟨8, 2⟩) (meth := k8m2) (c := k8c2) (by decide +kernel) rfl rfl rfl (by decide +kernel)
set_option maxRecDepth 65536 in
theorem w_c4 : (Jvm.Cond.code ({ cls := "java/lang/String", name := "<init>", desc := "([BB)V" } : Jvm.MethodName) jdk_42_method_151_code (3 : Nat) (Option.none : Option Jvm.ClassFile.FieldType)).before args0 about1 = true := code_word (m := ⟨7, 5⟩) (meth := k7m5) (c := k7c5) (by decide +kernel) rfl rfl rfl (by decide +kernel)
set_option maxRecDepth 65536 in
theorem w_c5 : (Jvm.Cond.code ({ cls := "java/lang/Object", name := "<init>", desc := "()V" } : Jvm.MethodName) object_method_1_code (1 : Nat) (Option.none : Option Jvm.ClassFile.FieldType)).before args0 about1 = true := code_word (m := ⟨0, 0⟩) (meth := k0m0) (c := k0c0) (by decide +kernel) rfl rfl rfl (by decide +kernel)
set_option maxRecDepth 65536 in
theorem w_c6 : (Jvm.Cond.code ({ cls := "java/lang/String", name := "<init>", desc := "([C)V" } : Jvm.MethodName) jdk_42_method_3_code (2 : Nat) (Option.none : Option Jvm.ClassFile.FieldType)).before args0 about1 = true := code_word (m := ⟨7, 1⟩) (meth := k7m1) (c := k7c1) (by decide +kernel) rfl rfl rfl (by decide +kernel)
set_option maxRecDepth 65536 in
theorem w_c7 : (Jvm.Cond.code ({ cls := "java/lang/String", name := "<init>", desc := "([CIILjava/lang/Void;)V" } : Jvm.MethodName) jdk_42_method_149_code (6 : Nat) (Option.none : Option Jvm.ClassFile.FieldType)).before args0 about1 = true := code_word (m := ⟨7, 4⟩) (meth := k7m4) (c := k7c4) (by decide +kernel) rfl rfl rfl (by decide +kernel)
set_option maxRecDepth 65536 in
theorem w_c8 : (Jvm.Cond.code ({ cls := "java/lang/StringUTF16", name := "compress", desc := "([CII)[B" } : Jvm.MethodName) jdk_52_method_16_code (6 : Nat) (Option.some (Jvm.ClassFile.FieldType.array Jvm.ClassFile.FieldType.byte))).before args0 about1 = true := code_word (m := ⟨9, 2⟩) (meth := k9m2) (c := k9c2) (by decide +kernel) rfl rfl rfl (by decide +kernel)
set_option maxRecDepth 65536 in
theorem w_c9 : (Jvm.Cond.code ({ cls := "java/lang/StringUTF16", name := "compress", desc := "([CI[BII)I" } : Jvm.MethodName) jdk_52_method_21_code (7 : Nat) (Option.some Jvm.ClassFile.FieldType.int)).before args0 about1 = true := code_word (m := ⟨9, 3⟩) (meth := k9m3) (c := k9c3) (by decide +kernel) rfl rfl rfl (by decide +kernel)
set_option maxRecDepth 65536 in
theorem w_c10 : (Jvm.Cond.code ({ cls := "java/lang/StringUTF16", name := "coderFromArrayLen", desc := "([BI)B" } : Jvm.MethodName) jdk_52_method_15_code (2 : Nat) (Option.some Jvm.ClassFile.FieldType.byte)).before args0 about1 = true := code_word (m := ⟨9, 1⟩) (meth := k9m1) (c := k9c1) (by decide +kernel) rfl rfl rfl (by decide +kernel)
set_option maxRecDepth 65536 in
theorem w_c11 : (Jvm.Cond.code ({ cls := "com/example/links_to_sitemap/linkstositemap/SitemapFileWriter$Entry", name := "<init>", desc := "(Ljava/lang/String;[Ljava/lang/String;)V" } : Jvm.MethodName) prog_22_method_2_code (3 : Nat) (Option.none : Option Jvm.ClassFile.FieldType)).before args0 about1 = true := code_word (m := ⟨10, 0⟩) (meth := k10m0) (c := k10c0) (by decide +kernel) rfl rfl rfl (by decide +kernel)
set_option maxRecDepth 65536 in
theorem w_c12 : (Jvm.Cond.code ({ cls := "com/example/links_to_sitemap/linkstositemap/SitemapFileWriter$Entry", name := "field", desc := "(Lcom/example/links_to_sitemap/linkstositemap/LinkField;)Ljava/lang/String;" } : Jvm.MethodName) prog_22_method_3_code (2 : Nat) (Option.some (Jvm.ClassFile.FieldType.object "java/lang/String"))).before args0 about1 = true := code_word (m := ⟨10, 1⟩) (meth := k10m1) (c := k10c1) (by decide +kernel) rfl rfl rfl (by decide +kernel)
set_option maxRecDepth 65536 in
theorem w_c13 : (Jvm.Cond.code ({ cls := "java/lang/Enum", name := "ordinal", desc := "()I" } : Jvm.MethodName) jdk_37_method_2_code (1 : Nat) (Option.some Jvm.ClassFile.FieldType.int)).before args0 about1 = true := code_word (m := ⟨11, 0⟩) (meth := k11m0) (c := k11c0) (by decide +kernel) rfl rfl rfl (by decide +kernel)
set_option maxRecDepth 65536 in
theorem w_c14 : (Jvm.Cond.code ({ cls := "com/example/links_to_sitemap/linkstositemap/EntryFieldPinLaw", name := "same", desc := "(Ljava/lang/String;Ljava/lang/String;)Z" } : Jvm.MethodName) method_2_code (2 : Nat) (Option.some Jvm.ClassFile.FieldType.boolean)).before args0 about1 = true := code_word (m := ⟨1, 1⟩) (meth := k1m1) (c := k1c1) (by decide +kernel) rfl rfl rfl (by decide +kernel)
set_option maxRecDepth 65536 in
theorem w_c15 : (Jvm.Cond.code ({ cls := "java/lang/String", name := "equals", desc := "(Ljava/lang/Object;)Z" } : Jvm.MethodName) jdk_42_method_66_code (3 : Nat) (Option.some Jvm.ClassFile.FieldType.boolean)).before args0 about1 = true := code_word (m := ⟨7, 2⟩) (meth := k7m2) (c := k7c2) (by decide +kernel) rfl rfl rfl (by decide +kernel)
def codes1 : List Jvm.Cond := [Jvm.Cond.code x code maxLocals ret, Jvm.Cond.code ({ cls := "java/lang/String", name := "valueOf", desc := "(C)Ljava/lang/String;" } : Jvm.MethodName) jdk_42_method_139_code (1 : Nat) (Option.some (Jvm.ClassFile.FieldType.object "java/lang/String")), Jvm.Cond.code ({ cls := "java/lang/StringLatin1", name := "canEncode", desc := "(C)Z" } : Jvm.MethodName) jdk_43_method_3_code (1 : Nat) (Option.some Jvm.ClassFile.FieldType.boolean), Jvm.Cond.code ({ cls := "java/lang/StringLatin1", name := "toBytes", desc := "(C)[B" } : Jvm.MethodName) jdk_43_method_46_code (1 : Nat) (Option.some (Jvm.ClassFile.FieldType.array Jvm.ClassFile.FieldType.byte)), Jvm.Cond.code ({ cls := "java/lang/String", name := "<init>", desc := "([BB)V" } : Jvm.MethodName) jdk_42_method_151_code (3 : Nat) (Option.none : Option Jvm.ClassFile.FieldType), Jvm.Cond.code ({ cls := "java/lang/Object", name := "<init>", desc := "()V" } : Jvm.MethodName) object_method_1_code (1 : Nat) (Option.none : Option Jvm.ClassFile.FieldType), Jvm.Cond.code ({ cls := "java/lang/String", name := "<init>", desc := "([C)V" } : Jvm.MethodName) jdk_42_method_3_code (2 : Nat) (Option.none : Option Jvm.ClassFile.FieldType), Jvm.Cond.code ({ cls := "java/lang/String", name := "<init>", desc := "([CIILjava/lang/Void;)V" } : Jvm.MethodName) jdk_42_method_149_code (6 : Nat) (Option.none : Option Jvm.ClassFile.FieldType), Jvm.Cond.code ({ cls := "java/lang/StringUTF16", name := "compress", desc := "([CII)[B" } : Jvm.MethodName) jdk_52_method_16_code (6 : Nat) (Option.some (Jvm.ClassFile.FieldType.array Jvm.ClassFile.FieldType.byte)), Jvm.Cond.code ({ cls := "java/lang/StringUTF16", name := "compress", desc := "([CI[BII)I" } : Jvm.MethodName) jdk_52_method_21_code (7 : Nat) (Option.some Jvm.ClassFile.FieldType.int), Jvm.Cond.code ({ cls := "java/lang/StringUTF16", name := "coderFromArrayLen", desc := "([BI)B" } : Jvm.MethodName) jdk_52_method_15_code (2 : Nat) (Option.some Jvm.ClassFile.FieldType.byte), Jvm.Cond.code ({ cls := "com/example/links_to_sitemap/linkstositemap/SitemapFileWriter$Entry", name := "<init>", desc := "(Ljava/lang/String;[Ljava/lang/String;)V" } : Jvm.MethodName) prog_22_method_2_code (3 : Nat) (Option.none : Option Jvm.ClassFile.FieldType), Jvm.Cond.code ({ cls := "com/example/links_to_sitemap/linkstositemap/SitemapFileWriter$Entry", name := "field", desc := "(Lcom/example/links_to_sitemap/linkstositemap/LinkField;)Ljava/lang/String;" } : Jvm.MethodName) prog_22_method_3_code (2 : Nat) (Option.some (Jvm.ClassFile.FieldType.object "java/lang/String")), Jvm.Cond.code ({ cls := "java/lang/Enum", name := "ordinal", desc := "()I" } : Jvm.MethodName) jdk_37_method_2_code (1 : Nat) (Option.some Jvm.ClassFile.FieldType.int), Jvm.Cond.code ({ cls := "com/example/links_to_sitemap/linkstositemap/EntryFieldPinLaw", name := "same", desc := "(Ljava/lang/String;Ljava/lang/String;)Z" } : Jvm.MethodName) method_2_code (2 : Nat) (Option.some Jvm.ClassFile.FieldType.boolean), Jvm.Cond.code ({ cls := "java/lang/String", name := "equals", desc := "(Ljava/lang/Object;)Z" } : Jvm.MethodName) jdk_42_method_66_code (3 : Nat) (Option.some Jvm.ClassFile.FieldType.boolean)]
set_option maxRecDepth 65536 in
theorem codes_eq : words1.filter isCode = codes1 := rfl
theorem w_codes : ∀ c ∈ words1.filter isCode, c.before args0 about1 = true := by
  rw [codes_eq]
  intro c hc
  simp only [codes1, List.mem_cons, List.not_mem_nil, or_false] at hc
  rcases hc with rfl | rfl | rfl | rfl | rfl | rfl | rfl | rfl | rfl | rfl | rfl | rfl | rfl | rfl | rfl | rfl
  · exact w_c0
  · exact w_c1
  · exact w_c2
  · exact w_c3
  · exact w_c4
  · exact w_c5
  · exact w_c6
  · exact w_c7
  · exact w_c8
  · exact w_c9
  · exact w_c10
  · exact w_c11
  · exact w_c12
  · exact w_c13
  · exact w_c14
  · exact w_c15
set_option maxRecDepth 65536 in
theorem w_t1 : (words1.take 24).all (fun c => isCode c || c.before args0 about1) = true := by decide +kernel
set_option maxRecDepth 65536 in
theorem w_t2 : ((words1.drop 24).take 24).all (fun c => isCode c || c.before args0 about1) = true := by decide +kernel
set_option maxRecDepth 65536 in
theorem w_t3 : (((words1.drop 24).drop 24).take 24).all (fun c => isCode c || c.before args0 about1) = true := by decide +kernel
set_option maxRecDepth 65536 in
theorem w_t4 : (((words1.drop 24).drop 24).drop 24).all (fun c => isCode c || c.before args0 about1) = true := by decide +kernel
theorem w_tables : (allAtoms (Jvm.Cond.code x code maxLocals ret :: tables_1)).before args0 about1 = true := by
  rw [allAtoms_all]
  show words1.all (fun c => c.before args0 about1) = true
  refine all_split ?_ w_codes
  rw [← List.take_append_drop 24 words1, List.all_append, w_t1, ← List.take_append_drop 24 (words1.drop 24), List.all_append, w_t2, ← List.take_append_drop 24 ((words1.drop 24).drop 24), List.all_append, w_t3, w_t4]
  rfl
set_option maxRecDepth 65536 in
theorem w_rest : rest_1_c.before args0 about1 = true := by decide +kernel
set_option maxRecDepth 65536 in
theorem w_case : (Jvm.Cond.and given_1 narrow_1).before args0 about1 = true := by decide +kernel
theorem w_applies : (headSpec (Jvm.Cond.code x code maxLocals ret :: tables_1) room_1).applies x e0.platform about1 = true :=
  (Spec.applies_iff w_frames).mpr ⟨w_running, w_runnable, w_alone, w_named, w_hears, w_ripe, w_room, w_tables⟩
theorem atStart : AtStart classFile x code maxLocals ret World_1 tables_1 room_1 Calls_1 rest_1 Pre_1 launch0 p0 e0 about1 theMethod args0 below0 :=
  ⟨lists_1, trivial, launch0.admits_env _ _ _, launch0.least_env, fairChoices_fair.cas, fairChoices_fair.clock, w_frames, w_args, w_heap, w_applies, trivial, w_rest, w_case⟩
end start1
theorem witness_1 : WitnessClaimed_1 := ⟨start1.p0, start1.e0, start1.about1, start1.theMethod, start1.args0, start1.below0, start1.atStart⟩
end Jvm.Pilot.@@N@@
