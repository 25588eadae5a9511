import JvmDerived
import JvmDerived.Pilot.@@N@@Statement
import JvmDerived.Pilot.@@N@@Code
set_option linter.unusedVariables false
set_option linter.unusedSimpArgs false
@@BLOCK:NumsL.lean.txt@@
namespace Jvm.RoadKit
open Sem ClassFile Op Lib Jvm.Stand Jvm.Free Jvm.LawKit
section New
variable {p : Program} {l : Launch} {e : Env} {R : Room} {s : State} {m : MethodId} {args : Array Value} {below : List Frame} {meth : Method} {c : Code} {T : State} {locs : List Loc} {cells slots : Nat}
theorem retI (X : Stand p l e R s m args below meth c T locs cells slots) (hx : p.tables.exec = Jvm.exec) {pc : Nat} {Ls : Array Slot} {z : Int32} {rest : List Value} (hret : meth.sig.returnType = some .int) (hd : decode c.code pc = .ok (.ireturn, 1)) {fs : List Frame}
    (hl : ∀ (f : JFrame) (acts : List Action), f.method = m → f.locked = none → f.entered = [] → (doReturn e (T.setTop f) acts (some (.int z))).1 = T.setFrames fs) : Steps p.tables e below (T.setTop (mkF m pc Ls (.int z :: rest))) (T.setFrames fs) := by
  have hm' : T.vm.method? m = some meth := X.method'
  have hn : narrow .int (.int z) = .int z := rfl
  show Steps p.tables e below (T.setTop { method := m, pc := pc, locals := Ls, stack := _ :: rest, locked := none }) _
  jvm_step X.here [X.here.top, hx, hd, hm', hret, hn]
  first | (intro acts; rw [hl _ acts rfl rfl rfl]) | rw [hl _ _ rfl rfl rfl]
  exact Steps.refl _
end New
end Jvm.RoadKit
/- laws to paste: Road.backV, Road.eqW, Road.codOf, StrChars.narrow_ch (cut by pick.py; bodies as the Statement names them) -/
namespace Jvm.Pilot.@@N@@
namespace StrChars
open Jvm Sem ClassFile Op Lib Jvm.Stand Jvm.Free.XT Jvm.Free.ALB Jvm.Free.JM Jvm.Free
open Jvm.Lib.Cold (StaticIs)
/-- a char array whose places are chars -/
def Ch (a : Addr) (A : Cell) (U : State) : Prop := Arr .char a A U ∧ Typed .char A
theorem Ch.mv {a : Addr} {A : Cell} {U U' : State} (h : Ch a A U) (hal : U.vm.Alike U'.vm) (hh : U'.heap = U.heap) : Ch a A U' := ⟨h.1.mv hal hh, h.2⟩
theorem Ch.keep {a : Addr} {A : Cell} {U U' : State} (h : Ch a A U) (hal : U.vm.Alike U'.vm) (hk : U'.heap[a]? = some A) : Ch a A U' := ⟨h.1.keep hal hk, h.2⟩
/-- what place i of a char[]'s cell holds -/
def cv (A : Cell) (i : Nat) : Int32 := match A.slots[i]? with | some (.int x) => x | _ => 0
theorem Ch.get {a : Addr} {A : Cell} {U : State} (h : Ch a A U) {i : Nat} (hi : i < A.slots.size) : A.slots[i]? = some (.int (cv A i)) := by
  have e := Array.getElem?_eq_getElem hi
  have f := h.2 i _ e
  unfold cv; rw [e]
  generalize A.slots[i] = v at f
  cases v <;> simp [fits] at f ⊢
/-- the byte that i2b leaves of a char -/
def lo8 (x : Int32) : Int32 := x.toInt8.toInt32
theorem fits_lo8 (y : Int32) : fits .byte (.int (lo8 y)) = true := by
  have h1 := y.toInt8.le_toInt
  have h2 := y.toInt8.toInt_lt
  simp only [lo8, fits, Bool.and_eq_true, decide_eq_true_eq, Int32.le_iff_toInt_le, Int8.toInt_toInt32, show (-128 : Int32).toInt = -128 from by decide, show (127 : Int32).toInt = 127 from by decide]
  omega
/-- A' is A but that each place j of lo .. hi - 1 holds f j -/
def Laid (A A' : Cell) (lo hi : Nat) (f : Nat → Value) : Prop := A'.cls = A.cls ∧ A'.vm = A.vm ∧ A'.slots.size = A.slots.size ∧ ∀ i, A'.slots[i]? = if lo ≤ i ∧ i < hi then some (f i) else A.slots[i]?
theorem Laid.zero (A : Cell) (lo : Nat) (f : Nat → Value) : Laid A A lo (lo + 0) f := ⟨rfl, rfl, rfl, fun i => by rw [if_neg (by omega)]⟩
theorem Laid.step {A Ak : Cell} {lo k : Nat} {f : Nat → Value} {v : Value} (h : Laid A Ak lo k f) (hlo : lo ≤ k) (hk : k < Ak.slots.size) (hv : v = f k) : Laid A (Ak.setSlot k v) lo (k + 1) f := by
  refine ⟨h.1, h.2.1, by simpa [Cell.setSlot] using h.2.2.1, fun i => ?_⟩
  by_cases e : k = i
  · subst e; rw [Cell.slots_setSlot_self v hk, if_pos (by omega), hv]
  · rw [Cell.slots_setSlot_ne v e, h.2.2.2 i]
    by_cases q : lo ≤ i ∧ i < k
    · rw [if_pos q, if_pos (by omega)]
    · rw [if_neg q, if_neg (by omega)]
def U16 : String := "java/lang/StringUTF16"
namespace Cmp5
def yN : MethodName := ⟨"java/lang/StringUTF16", "compress", "([CI[BII)I"⟩
abbrev yB : ByteArray := jdk_52_method_21_code
theorem d0 : decode yB 0 = .ok (.iconst 0, 1) := by decide +kernel
theorem d1 : decode yB 1 = .ok (.istore 5, 2) := by decide +kernel
theorem d3 : decode yB 3 = .ok (.iload 5, 2) := by decide +kernel
theorem d5 : decode yB 5 = .ok (.iload 4, 2) := by decide +kernel
theorem d7 : decode yB 7 = .ok (.if_icmp (.ge) 37, 3) := by decide +kernel
theorem d10 : decode yB 10 = .ok (.aload_n 0, 1) := by decide +kernel
theorem d11 : decode yB 11 = .ok (.iload_n 1, 1) := by decide +kernel
theorem d12 : decode yB 12 = .ok (.caload, 1) := by decide +kernel
theorem d13 : decode yB 13 = .ok (.istore 6, 2) := by decide +kernel
theorem d15 : decode yB 15 = .ok (.iload 6, 2) := by decide +kernel
theorem d17 : decode yB 17 = .ok (.sipush 255, 3) := by decide +kernel
theorem d20 : decode yB 20 = .ok (.if_icmp (.le) 6, 3) := by decide +kernel
theorem d26 : decode yB 26 = .ok (.aload_n 2, 1) := by decide +kernel
theorem d27 : decode yB 27 = .ok (.iload_n 3, 1) := by decide +kernel
theorem d28 : decode yB 28 = .ok (.iload 6, 2) := by decide +kernel
theorem d30 : decode yB 30 = .ok (.i2b, 1) := by decide +kernel
theorem d31 : decode yB 31 = .ok (.bastore, 1) := by decide +kernel
theorem d32 : decode yB 32 = .ok (.iinc 1 1, 3) := by decide +kernel
theorem d35 : decode yB 35 = .ok (.iinc 3 1, 3) := by decide +kernel
theorem d38 : decode yB 38 = .ok (.iinc 5 1, 3) := by decide +kernel
theorem d41 : decode yB 41 = .ok (.goto (-38), 3) := by decide +kernel
theorem d44 : decode yB 44 = .ok (.iload 4, 2) := by decide +kernel
theorem d46 : decode yB 46 = .ok (.ireturn, 1) := by decide +kernel
def site : List Cond := []
def tab : Cond := tabOf yN yB 7 (some .int) site
def P (b : Addr) (A : Cell) (d : Addr) (B : Cell) (o q len : Nat) (args : Array Value) (s : State) : Prop := args = #[.ref b, .int (Int32.ofNat o), .ref d, .int (Int32.ofNat q), .int (Int32.ofNat len)] ∧ Ch b A s ∧ Arr .byte d B s ∧ b ≠ d ∧ o + len ≤ A.slots.size ∧ q + len ≤ B.slots.size ∧ ∀ i, i < len → ¬ 255 < cv A (o + i)
def E (b : Addr) (A : Cell) (d : Addr) (B : Cell) (o q len : Nat) (r : Option Value) (s u : State) : Prop := r = some (.int (Int32.ofNat len)) ∧ ∃ B', Put d B' s u ∧ Laid B B' q (q + len) (fun j => Value.int (lo8 (cv A (o + (j - q)))))
/-- no char of the range above 255: len; the places written hold each char's low byte -/
theorem law (l : Launch) (b : Addr) (A : Cell) (d : Addr) (B : Cell) (o q len : Nat) : Law l yN 5 5 0 0 yB 7 (some .int) site (P b A d B o q len) (E b A d B o q len) (copyLocs d q len) 0 0 := by
  refine Law.of_walk (plainFor_of_name (by decide +kernel)) (by decide +kernel) (by decide +kernel) (by decide) (fun _ _ h => by rw [h.1]; rfl) (fun _ U U' hal hh h => ⟨h.1, h.2.1.mv hal hh, h.2.2.1.mv hal hh, h.2.2.2⟩) (fun r U U' V V' h1 hal h2 h => ⟨h.1, h.2.elim fun B' q => ⟨B', q.1.mv h1 h2, q.2⟩⟩) ?_
  intro p e s m args below meth c s₁ X0 hexec hbytes hml hret hlk hnm hown hh0 W hP
  obtain ⟨rfl, hA, hB, hne, l1, l2, hp⟩ := hP
  have c1 : Steps p.tables e below (s₁.setTop (entryFrame m #[.ref b, .int (Int32.ofNat o), .ref d, .int (Int32.ofNat q), .int (Int32.ofNat len)] 7)) (s₁.setTop (mkF m 0 #[.val (.ref b), .val (.int (Int32.ofNat o)), .val (.ref d), .val (.int (Int32.ofNat q)), .val (.int (Int32.ofNat len)), .unset, .unset] [])) := entry rfl
  have hA0 := hA.1.mv X0.warmed.alike hh0
  have hB0 := hB.mv X0.warmed.alike hh0
  have a31 := hA.1.2.2.2
  have c2 : Steps p.tables e below (s₁.setTop (entryFrame m #[.ref b, .int (Int32.ofNat o), .ref d, .int (Int32.ofNat q), .int (Int32.ofNat len)] 7)) (s₁.setTop (mkF m 3 #[.val (.ref b), .val (.int (Int32.ofNat o)), .val (.ref d), .val (.int (Int32.ofNat q)), .val (.int (Int32.ofNat len)), .val (.int 0), .unset] [])) := c1.trans (by
    refine iconstV X0.here hexec rfl 0 (hb hbytes d0) (by decide) ?_
    refine XS.istore X0.here hexec rfl (hb hbytes d1) rfl rfl ?_
    exact Steps.refl _)
  have loop : ∀ (r i : Nat), i + r = len → ∀ (z : Slot), (z = .unset ∨ ∃ w, z = .val w ∧ w.category = 1) → ∀ (Tl : State) (Bk : Cell), Stand p l e { frames := 0, locals := 0, cells := 0, slots := 0 } s m #[.ref b, .int (Int32.ofNat o), .ref d, .int (Int32.ofNat q), .int (Int32.ofNat len)] below meth c Tl ([] ++ copyLocs d q i) 0 0 → Put d Bk s₁ Tl → Laid B Bk q (q + i) (fun j => Value.int (lo8 (cv A (o + (j - q))))) →
      Steps p.tables e below (s₁.setTop (entryFrame m #[.ref b, .int (Int32.ofNat o), .ref d, .int (Int32.ofNat q), .int (Int32.ofNat len)] 7)) (Tl.setTop (mkF m 3 #[.val (.ref b), .val (.int (Int32.ofNat (o + i))), .val (.ref d), .val (.int (Int32.ofNat (q + i))), .val (.int (Int32.ofNat len)), .val (.int (Int32.ofNat i)), z] [])) → ∃ (T' : State) (B' : Cell) (z' : Slot), Stand p l e { frames := 0, locals := 0, cells := 0, slots := 0 } s m #[.ref b, .int (Int32.ofNat o), .ref d, .int (Int32.ofNat q), .int (Int32.ofNat len)] below meth c T' ([] ++ copyLocs d q len) 0 0 ∧ Put d B' s₁ T' ∧ Laid B B' q (q + len) (fun j => Value.int (lo8 (cv A (o + (j - q))))) ∧
      Steps p.tables e below (s₁.setTop (entryFrame m #[.ref b, .int (Int32.ofNat o), .ref d, .int (Int32.ofNat q), .int (Int32.ofNat len)] 7)) (T'.setTop (mkF m 3 #[.val (.ref b), .val (.int (Int32.ofNat (o + len))), .val (.ref d), .val (.int (Int32.ofNat (q + len))), .val (.int (Int32.ofNat len)), .val (.int (Int32.ofNat len)), z'] [])) := by
    intro r
    induction r with
    | zero =>
      intro i hi z hz Tl Bk Xl pl fl cl
      have hil : i = len := by omega
      rw [hil] at Xl fl cl
      exact ⟨Tl, Bk, z, Xl, pl, fl, cl⟩
    | succ r ih =>
      intro i hi z hz Tl Bk Xl pl fl cl
      have all := X0.warmed.alike.symm.trans Xl.warmed.alike
      have hAl := hA0.keep all (pl.other hne hA0.1)
      have hBk := hB0.like all pl.1 fl.1 fl.2.1 fl.2.2.1
      have hlt : q + i < Bk.slots.size := by rw [fl.2.2.1]; omega
      have c3 : Steps p.tables e below (s₁.setTop (entryFrame m #[.ref b, .int (Int32.ofNat o), .ref d, .int (Int32.ofNat q), .int (Int32.ofNat len)] 7)) (Tl.setTop (mkF m 12 #[.val (.ref b), .val (.int (Int32.ofNat (o + i))), .val (.ref d), .val (.int (Int32.ofNat (q + i))), .val (.int (Int32.ofNat len)), .val (.int (Int32.ofNat i)), z] [.int (Int32.ofNat (o + i)), .ref b])) := cl.trans (by
        refine XS.iload Xl.here hexec rfl (hb hbytes d3) rfl ?_
        refine XS.iload Xl.here hexec rfl (hb hbytes d5) rfl ?_
        refine XS.icmpNo Xl.here hexec rfl (hb hbytes d7) rfl (ii_ge_f (lt32 (by omega) (by omega))) ?_
        refine XS.aloadN Xl.here hexec rfl (hb hbytes d10) rfl rfl ?_
        refine XS.iloadN Xl.here hexec rfl (hb hbytes d11) rfl ?_
        exact Steps.refl _)
      have c4 : Steps p.tables e below (s₁.setTop (entryFrame m #[.ref b, .int (Int32.ofNat o), .ref d, .int (Int32.ofNat q), .int (Int32.ofNat len)] 7)) (Tl.setTop (mkF m 13 #[.val (.ref b), .val (.int (Int32.ofNat (o + i))), .val (.ref d), .val (.int (Int32.ofNat (q + i))), .val (.int (Int32.ofNat len)), .val (.int (Int32.ofNat i)), z] [.int (cv A (o + i))])) := c3.trans (by
        refine Xl.aget hexec hAl rfl (hA.get (i := o + i) (by omega)) rfl rfl (hb hbytes d12) ?_
        exact Steps.refl _)
      have c5 : Steps p.tables e below (s₁.setTop (entryFrame m #[.ref b, .int (Int32.ofNat o), .ref d, .int (Int32.ofNat q), .int (Int32.ofNat len)] 7)) (Tl.setTop (mkF m 15 #[.val (.ref b), .val (.int (Int32.ofNat (o + i))), .val (.ref d), .val (.int (Int32.ofNat (q + i))), .val (.int (Int32.ofNat len)), .val (.int (Int32.ofNat i)), .val (.int (cv A (o + i)))] [])) := c4.trans (by
        refine XS.istoreS Xl.here hexec rfl (hb hbytes d13) rfl rfl hz ?_
        exact Steps.refl _)
      have c6 : Steps p.tables e below (s₁.setTop (entryFrame m #[.ref b, .int (Int32.ofNat o), .ref d, .int (Int32.ofNat q), .int (Int32.ofNat len)] 7)) (Tl.setTop (mkF m 31 #[.val (.ref b), .val (.int (Int32.ofNat (o + i))), .val (.ref d), .val (.int (Int32.ofNat (q + i))), .val (.int (Int32.ofNat len)), .val (.int (Int32.ofNat i)), .val (.int (cv A (o + i)))] [.int (lo8 (cv A (o + i))), .int (Int32.ofNat (q + i)), .ref d])) := c5.trans (by
        refine XS.iload Xl.here hexec rfl (hb hbytes d15) rfl ?_
        refine sipushV Xl.here hexec rfl 255 (hb hbytes d17) (by decide) ?_
        refine XS.icmpYes Xl.here hexec rfl (pc0 := 20) rfl (hb hbytes d20) rfl (ii_le_t (hp i (by omega))) (by decide) rfl ?_
        refine XS.aloadN Xl.here hexec rfl (hb hbytes d26) rfl rfl ?_
        refine XS.iloadN Xl.here hexec rfl (hb hbytes d27) rfl ?_
        refine XS.iload Xl.here hexec rfl (hb hbytes d28) rfl ?_
        refine i2b Xl.here hexec rfl (hb hbytes d30) rfl ?_
        exact Steps.refl _)
      obtain ⟨T7, X7, p7, st7⟩ := Xl.aput hexec hBk rfl hlt rfl (fits_lo8 (cv A (o + i))) (g := (mkF m 31 #[.val (.ref b), .val (.int (Int32.ofNat (o + i))), .val (.ref d), .val (.int (Int32.ofNat (q + i))), .val (.int (Int32.ofNat len)), .val (.int (Int32.ofNat i)), .val (.int (cv A (o + i)))] [.int (lo8 (cv A (o + i))), .int (Int32.ofNat (q + i)), .ref d])) rfl (rest := []) rfl (hb hbytes d31)
      have c8 : Steps p.tables e below (s₁.setTop (entryFrame m #[.ref b, .int (Int32.ofNat o), .ref d, .int (Int32.ofNat q), .int (Int32.ofNat len)] 7)) (T7.setTop (mkF m 32 #[.val (.ref b), .val (.int (Int32.ofNat (o + i))), .val (.ref d), .val (.int (Int32.ofNat (q + i))), .val (.int (Int32.ofNat len)), .val (.int (Int32.ofNat i)), .val (.int (cv A (o + i)))] [])) := c6.trans (st7 _ (Steps.refl _))
      have c9 : Steps p.tables e below (s₁.setTop (entryFrame m #[.ref b, .int (Int32.ofNat o), .ref d, .int (Int32.ofNat q), .int (Int32.ofNat len)] 7)) (T7.setTop (mkF m 3 #[.val (.ref b), .val (.int (Int32.ofNat (o + i) + 1)), .val (.ref d), .val (.int (Int32.ofNat (q + i) + 1)), .val (.int (Int32.ofNat len)), .val (.int (Int32.ofNat i + 1)), .val (.int (cv A (o + i)))] [])) := c8.trans (by
        refine iincV X7.here hexec rfl 1 (hb hbytes d32) (by decide) rfl rfl ?_
        refine iincV X7.here hexec rfl 1 (hb hbytes d35) (by decide) rfl rfl ?_
        refine iincV X7.here hexec rfl 1 (hb hbytes d38) (by decide) rfl rfl ?_
        refine XS.goto X7.here hexec rfl (pc0 := 41) rfl (hb hbytes d41) (by decide) rfl ?_
        exact Steps.refl _)
      have c10 : Steps p.tables e below (s₁.setTop (entryFrame m #[.ref b, .int (Int32.ofNat o), .ref d, .int (Int32.ofNat q), .int (Int32.ofNat len)] 7)) (T7.setTop (mkF m 3 #[.val (.ref b), .val (.int (Int32.ofNat (o + (i + 1)))), .val (.ref d), .val (.int (Int32.ofNat (q + (i + 1)))), .val (.int (Int32.ofNat len)), .val (.int (Int32.ofNat (i + 1))), .val (.int (cv A (o + i)))] [])) := by
        have := c9
        rw [succ32, succ32, succ32] at this
        exact this
      exact ih (i + 1) (by omega) _ (Or.inr ⟨_, rfl, rfl⟩) T7 _ (by rw [copyLocs_step, ← List.append_assoc]; exact X7) (pl.trans p7) (fl.step (by omega) hlt (by simp)) c10
  obtain ⟨T9, B9, z9, X9, p9, f9, g9⟩ := loop len 0 (by omega) .unset (Or.inl rfl) s₁ B (by simpa [copyLocs] using X0) ⟨hB0.1, fun _ _ => rfl, rfl⟩ (Laid.zero _ _ _) c2
  have c11 : Steps p.tables e below (s₁.setTop (entryFrame m #[.ref b, .int (Int32.ofNat o), .ref d, .int (Int32.ofNat q), .int (Int32.ofNat len)] 7)) (T9.setTop (mkF m 46 #[.val (.ref b), .val (.int (Int32.ofNat (o + len))), .val (.ref d), .val (.int (Int32.ofNat (q + len))), .val (.int (Int32.ofNat len)), .val (.int (Int32.ofNat len)), z9] [.int (Int32.ofNat len)])) := g9.trans (by
    refine XS.iload X9.here hexec rfl (hb hbytes d3) rfl ?_
    refine XS.iload X9.here hexec rfl (hb hbytes d5) rfl ?_
    refine XS.icmpYes X9.here hexec rfl (pc0 := 7) rfl (hb hbytes d7) rfl (ii_ge_t (nlt32 (by omega) (Nat.le_refl _))) (by decide) rfl ?_
    refine XS.iload X9.here hexec rfl (hb hbytes d44) rfl ?_
    exact Steps.refl _)
  exact ⟨T9, some (.int (Int32.ofNat len)), _, _, _, X9, by simp, rfl, rfl, (fun h => by cases h), ⟨rfl, B9, p9.from hh0, f9⟩, fun fs hl => c11.trans (X9.ireturnOut hexec hret rfl (Or.inl rfl) (hb hbytes d46) hl)⟩
end Cmp5
namespace Cmp3
def yN : MethodName := ⟨"java/lang/StringUTF16", "compress", "([CII)[B"⟩
abbrev yB : ByteArray := jdk_52_method_16_code
theorem d0 : decode yB 0 = .ok (.iload_n 2, 1) := by decide +kernel
theorem d1 : decode yB 1 = .ok (.newarray .byte, 2) := by decide +kernel
theorem d3 : decode yB 3 = .ok (.astore_n 3, 1) := by decide +kernel
theorem d4 : decode yB 4 = .ok (.aload_n 0, 1) := by decide +kernel
theorem d5 : decode yB 5 = .ok (.iload_n 1, 1) := by decide +kernel
theorem d6 : decode yB 6 = .ok (.aload_n 3, 1) := by decide +kernel
theorem d7 : decode yB 7 = .ok (.iconst 0, 1) := by decide +kernel
theorem d8 : decode yB 8 = .ok (.iload_n 2, 1) := by decide +kernel
theorem d9 : decode yB 9 = .ok (.invokestatic 115, 3) := by decide +kernel
theorem d12 : decode yB 12 = .ok (.istore 4, 2) := by decide +kernel
theorem d14 : decode yB 14 = .ok (.iload 4, 2) := by decide +kernel
theorem d16 : decode yB 16 = .ok (.iload_n 2, 1) := by decide +kernel
theorem d17 : decode yB 17 = .ok (.if_icmp (.eq) 40, 3) := by decide +kernel
theorem d57 : decode yB 57 = .ok (.aload_n 3, 1) := by decide +kernel
theorem d58 : decode yB 58 = .ok (.areturn, 1) := by decide +kernel
def site : List Cond := [.arrayClass .byte, Cmp5.tab] ++ staticW U16 115 Cmp5.yN
def tab : Cond := tabOf yN yB 6 (some (.array .byte)) site
def P (b : Addr) (A : Cell) (o len : Nat) (args : Array Value) (s : State) : Prop := args = #[.ref b, .int (Int32.ofNat o), .int (Int32.ofNat len)] ∧ Ch b A s ∧ o + len ≤ A.slots.size ∧ len ≤ 536870912 ∧ ∀ i, i < len → ¬ 255 < cv A (o + i)
def E (b : Addr) (A : Cell) (o len : Nat) (r : Option Value) (s u : State) : Prop := NewArr .byte "[B" len (fun j => .int (lo8 (cv A (o + j)))) r s u ∧ u.heap.size = s.heap.size + 1
/-- no char of the range above 255: a new byte[] of their low bytes -/
theorem law (l : Launch) (b : Addr) (A : Cell) (o len : Nat) : Law l yN 3 3 1 18 yB 6 (some (.array .byte)) site (P b A o len) (E b A o len) [] 1 len := by
  refine Law.of_walk (plainFor_of_name (by decide +kernel)) (by decide +kernel) (by decide +kernel) (by decide) (fun _ _ h => by rw [h.1]; rfl) (fun _ U U' hal hh h => ⟨h.1, h.2.1.mv hal hh, h.2.2⟩) (fun r U U' V V' h1 hal h2 h => ⟨NewArr.mv r U U' V V' h1 hal h2 h.1, by rw [h1, h2]; exact h.2⟩) ?_
  intro p e s m args below meth c s₁ X0 hexec hbytes hml hret hlk hnm hown hh0 W hP
  obtain ⟨rfl, hA, l1, l2, hp⟩ := hP
  have a31 := hA.1.2.2.2
  have c1 : Steps p.tables e below (s₁.setTop (entryFrame m #[.ref b, .int (Int32.ofNat o), .int (Int32.ofNat len)] 6)) (s₁.setTop (mkF m 0 #[.val (.ref b), .val (.int (Int32.ofNat o)), .val (.int (Int32.ofNat len)), .unset, .unset, .unset] [])) := entry rfl
  have c2 : Steps p.tables e below (s₁.setTop (entryFrame m #[.ref b, .int (Int32.ofNat o), .int (Int32.ofNat len)] 6)) (s₁.setTop (mkF m 1 #[.val (.ref b), .val (.int (Int32.ofNat o)), .val (.int (Int32.ofNat len)), .unset, .unset, .unset] [.int (Int32.ofNat len)])) := c1.trans (by
    refine XS.iloadN X0.here hexec rfl (hb hbytes d0) rfl ?_
    exact Steps.refl _)
  obtain ⟨T3, B3, X3, ba3, bs3, bv3, bh3, bf3, st3⟩ := X0.anew hexec (atype := .byte) (wk W (.arrayClass .byte)) rfl (by show len * 1 ≤ _; omega) (by omega) (g := (mkF m 1 #[.val (.ref b), .val (.int (Int32.ofNat o)), .val (.int (Int32.ofNat len)), .unset, .unset, .unset] [.int (Int32.ofNat len)])) rfl (hb hbytes d1) (rest := []) rfl (Nat.le_refl _) (by show 0 + len ≤ len; omega)
  rw [hh0] at ba3 st3
  have kp3 : XT.Kept s T3 := (XT.Kept.of_eq hh0).push bh3
  have hA3 := hA.keep X3.warmed.alike (kp3 _ _ hA.1.1)
  have hne : b ≠ s.heap.size := hA.1.ne
  have c4 : Steps p.tables e below (s₁.setTop (entryFrame m #[.ref b, .int (Int32.ofNat o), .int (Int32.ofNat len)] 6)) (T3.setTop (mkF m 3 #[.val (.ref b), .val (.int (Int32.ofNat o)), .val (.int (Int32.ofNat len)), .unset, .unset, .unset] [.ref s.heap.size])) := c2.trans (st3 _ (Steps.refl _))
  have c5 : Steps p.tables e below (s₁.setTop (entryFrame m #[.ref b, .int (Int32.ofNat o), .int (Int32.ofNat len)] 6)) (T3.setTop (mkF m 9 #[.val (.ref b), .val (.int (Int32.ofNat o)), .val (.int (Int32.ofNat len)), .val (.ref s.heap.size), .unset, .unset] [.int (Int32.ofNat len), .int 0, .ref s.heap.size, .int (Int32.ofNat o), .ref b])) := c4.trans (by
    refine XS.astoreN X3.here hexec rfl (hb hbytes d3) rfl rfl rfl ?_
    refine XS.aloadN X3.here hexec rfl (hb hbytes d4) rfl rfl ?_
    refine XS.iloadN X3.here hexec rfl (hb hbytes d5) rfl ?_
    refine XS.aloadN X3.here hexec rfl (hb hbytes d6) rfl rfl ?_
    refine iconstV X3.here hexec rfl 0 (hb hbytes d7) (by decide) ?_
    refine XS.iloadN X3.here hexec rfl (hb hbytes d8) rfl ?_
    exact Steps.refl _)
  obtain ⟨v6, T6, X6, E6, g6⟩ := X3.callS hexec (Cmp5.law l b A s.heap.size B3 o 0 len) hown (wks W (staticW U16 115 Cmp5.yN)) (wk W Cmp5.tab) (W := 0) (Nat.le_of_ble_eq_true rfl) (Nat.le_of_ble_eq_true rfl) (Nat.le_refl _) (by show 0 + len + 0 ≤ len; omega) (g := (mkF m 9 #[.val (.ref b), .val (.int (Int32.ofNat o)), .val (.int (Int32.ofNat len)), .val (.ref s.heap.size), .unset, .unset] [.int (Int32.ofNat len), .int (Int32.ofNat 0), .ref s.heap.size, .int (Int32.ofNat o), .ref b])) rfl (by rw [hml]; rfl) c5 (argsL := [.ref b, .int (Int32.ofNat o), .ref s.heap.size, .int (Int32.ofNat 0), .int (Int32.ofNat len)]) (rest := []) rfl rfl (by show 2 * 0 + 0 ≤ _; decide) (hb hbytes d9) (⟨rfl, hA3, ba3, hne, l1, by rw [bs3]; simp, hp⟩)
  obtain ⟨rfl, B6, p6, f6⟩ := E6
  have c7 : Steps p.tables e below (s₁.setTop (entryFrame m #[.ref b, .int (Int32.ofNat o), .int (Int32.ofNat len)] 6)) (T6.setTop (mkF m 12 #[.val (.ref b), .val (.int (Int32.ofNat o)), .val (.int (Int32.ofNat len)), .val (.ref s.heap.size), .unset, .unset] [.int (Int32.ofNat len)])) := g6
  have c8 : Steps p.tables e below (s₁.setTop (entryFrame m #[.ref b, .int (Int32.ofNat o), .int (Int32.ofNat len)] 6)) (T6.setTop (mkF m 58 #[.val (.ref b), .val (.int (Int32.ofNat o)), .val (.int (Int32.ofNat len)), .val (.ref s.heap.size), .val (.int (Int32.ofNat len)), .unset] [.ref s.heap.size])) := c7.trans (by
    refine XS.istore X6.here hexec rfl (hb hbytes d12) rfl rfl ?_
    refine XS.iload X6.here hexec rfl (hb hbytes d14) rfl ?_
    refine XS.iloadN X6.here hexec rfl (hb hbytes d16) rfl ?_
    refine XS.icmpYes X6.here hexec rfl (pc0 := 17) rfl (hb hbytes d17) rfl (ii_eq_t rfl) (by decide) rfl ?_
    refine XS.aloadN X6.here hexec rfl (hb hbytes d57) rfl rfl ?_
    exact Steps.refl _)
  have X8 := X6.wide (L' := []) (cells' := 1) (slots' := len) (fun x hx hlt => by
    simp only [List.nil_append, copyLocs, List.mem_map, List.mem_range] at hx
    obtain ⟨i, -, rfl⟩ := hx
    exact absurd hlt (Nat.lt_irrefl _)) (Nat.le_refl _) (by omega)
  exact ⟨T6, some (.ref s.heap.size), _, _, _, X8, rfl, rfl, rfl, (fun h => by cases h), ⟨⟨rfl, B6, ba3.like (X3.warmed.alike.symm.trans X6.warmed.alike) p6.1 f6.1 f6.2.1 f6.2.2.1, f6.2.1.trans bv3, by rw [X6.warmed.alike.findClass, f6.1]; exact bf3, by rw [f6.2.2.1, bs3]; simp, fun j hj => by rw [f6.2.2.2 j, if_pos (by omega)]; rfl, kp3.put p6 (Nat.le_refl _)⟩, by rw [p6.2.2, bh3, hh0]; simp⟩, fun fs hl => c8.trans (X8.areturnOut hexec rfl hret rfl (hb hbytes d58) hl)⟩
end Cmp3
namespace CodL
def yN : MethodName := ⟨"java/lang/StringUTF16", "coderFromArrayLen", "([BI)B"⟩
abbrev yB : ByteArray := jdk_52_method_15_code
theorem d0 : decode yB 0 = .ok (.iload_n 1, 1) := by decide +kernel
theorem d1 : decode yB 1 = .ok (.aload_n 0, 1) := by decide +kernel
theorem d2 : decode yB 2 = .ok (.arraylength, 1) := by decide +kernel
theorem d3 : decode yB 3 = .ok (.isub, 1) := by decide +kernel
theorem d4 : decode yB 4 = .ok (.bipush 31, 2) := by decide +kernel
theorem d6 : decode yB 6 = .ok (.iushr, 1) := by decide +kernel
theorem d7 : decode yB 7 = .ok (.i2b, 1) := by decide +kernel
theorem d8 : decode yB 8 = .ok (.ireturn, 1) := by decide +kernel
def site : List Cond := []
def tab : Cond := tabOf yN yB 2 (some .byte) site
def P (d : Addr) (B : Cell) (args : Array Value) (s : State) : Prop := args = #[.ref d, .int (Int32.ofNat B.slots.size)] ∧ Arr .byte d B s
def E (r : Option Value) (s u : State) : Prop := XT.PureE (some (.int 0)) r s u
/-- an array as long as the number of chars: LATIN1 -/
theorem law (l : Launch) (d : Addr) (B : Cell) : Law l yN 2 2 0 0 yB 2 (some .byte) site (P d B) E [] 0 0 := by
  refine Law.of_walk (plainFor_of_name (by decide +kernel)) (by decide +kernel) (by decide +kernel) (by decide) (fun _ _ h => by rw [h.1]; rfl) (fun _ U U' hal hh h => ⟨h.1, h.2.mv hal hh⟩) (fun r U U' V V' h1 hal h2 h => XT.PureE.mv r U U' V V' h1 hal h2 h) ?_
  intro p e s m args below meth c s₁ X0 hexec hbytes hml hret hlk hnm hown hh0 W hP
  obtain ⟨rfl, hB⟩ := hP
  have hB0 := hB.mv X0.warmed.alike hh0
  have c1 : Steps p.tables e below (s₁.setTop (entryFrame m #[.ref d, .int (Int32.ofNat B.slots.size)] 2)) (s₁.setTop (mkF m 0 #[.val (.ref d), .val (.int (Int32.ofNat B.slots.size))] [])) := entry rfl
  have c2 : Steps p.tables e below (s₁.setTop (entryFrame m #[.ref d, .int (Int32.ofNat B.slots.size)] 2)) (s₁.setTop (mkF m 2 #[.val (.ref d), .val (.int (Int32.ofNat B.slots.size))] [.ref d, .int (Int32.ofNat B.slots.size)])) := c1.trans (by
    refine XS.iloadN X0.here hexec rfl (hb hbytes d0) rfl ?_
    refine XS.aloadN X0.here hexec rfl (hb hbytes d1) rfl rfl ?_
    exact Steps.refl _)
  have c3 : Steps p.tables e below (s₁.setTop (entryFrame m #[.ref d, .int (Int32.ofNat B.slots.size)] 2)) (s₁.setTop (mkF m 8 #[.val (.ref d), .val (.int (Int32.ofNat B.slots.size))] [.int (lo8 (ushr (Int32.ofNat B.slots.size - Int32.ofNat B.slots.size) 31))])) := c2.trans (by
    refine X0.alen hexec hB0 rfl rfl (hb hbytes d2) ?_
    refine XS.isub X0.here hexec rfl (hb hbytes d3) rfl ?_
    refine bipushV X0.here hexec rfl 31 (hb hbytes d4) (by decide) ?_
    refine iushr X0.here hexec rfl (hb hbytes d6) rfl ?_
    refine i2b X0.here hexec rfl (hb hbytes d7) rfl ?_
    exact Steps.refl _)
  have e0 : lo8 (ushr (Int32.ofNat B.slots.size - Int32.ofNat B.slots.size) 31) = 0 := by rw [Int32.sub_self]; decide
  rw [e0] at c3
  exact ⟨s₁, some (.int 0), _, _, _, X0, rfl, rfl, rfl, (fun h => by cases h), ⟨rfl, hh0⟩, fun fs hl => c3.trans (X0.ireturnOut hexec hret rfl (Or.inr (Or.inr (Or.inl rfl))) (hb hbytes d8) hl)⟩
end CodL
/-- the String at a is Latin-1 over a new byte[] (the heap's one new cell): the low bytes of the len chars of A from o on; every cell but a is kept -/
def Got (a : Addr) (D : Cell) (fV fC : Field) (A : Cell) (o len : Nat) (r : Option Value) (s u : State) : Prop := r = none ∧ ∃ D' V : Cell, Blank "java/lang/String" a D' u ∧ Same D D' [fV.slot, fC.slot] ∧ D'.slots[fV.slot]? = some (.ref s.heap.size) ∧ D'.slots[fC.slot]? = some (.int 0) ∧ Arr .byte s.heap.size V u ∧ V.vm = .none ∧ u.vm.findClass "[B" = some V.cls ∧ V.slots.size = len ∧ (∀ j, j < len → V.slots[j]? = some (.int (lo8 (cv A (o + j))))) ∧ (∀ (y : Addr) (c : Cell), y ≠ a → s.heap[y]? = some c → u.heap[y]? = some c) ∧ u.heap.size = s.heap.size + 1
theorem Got.mv {a : Addr} {D A : Cell} {fV fC : Field} {o len : Nat} : ∀ r (U U' V V' : State), U'.heap = U.heap → V.vm.Alike V'.vm → V'.heap = V.heap → Got a D fV fC A o len r U V → Got a D fV fC A o len r U' V' :=
  fun r U U' V V' h1 hal h2 ⟨e0, D', X, a1, a2, a3, a4, a5, a6, a7, a8, a9, a10, a11⟩ => ⟨e0, D', X, a1.mv hal h2, a2, by rw [h1]; exact a3, a4, by rw [h1]; exact a5.mv hal h2, a6, by rw [hal.findClass]; exact a7, a8, a9, by rw [h1, h2]; exact a10, by rw [h1, h2]; exact a11⟩
namespace New4
def yN : MethodName := ⟨"java/lang/String", "<init>", "([CIILjava/lang/Void;)V"⟩
abbrev yB : ByteArray := jdk_42_method_149_code
theorem d0 : decode yB 0 = .ok (.aload_n 0, 1) := by decide +kernel
theorem d1 : decode yB 1 = .ok (.invokespecial 1, 3) := by decide +kernel
theorem d4 : decode yB 4 = .ok (.iload_n 3, 1) := by decide +kernel
theorem d5 : decode yB 5 = .ok (.ifCond (.ne) 22, 3) := by decide +kernel
theorem d27 : decode yB 27 = .ok (.getstatic 38, 3) := by decide +kernel
theorem d30 : decode yB 30 = .ok (.ifCond (.eq) 28, 3) := by decide +kernel
theorem d33 : decode yB 33 = .ok (.aload_n 1, 1) := by decide +kernel
theorem d34 : decode yB 34 = .ok (.iload_n 2, 1) := by decide +kernel
theorem d35 : decode yB 35 = .ok (.iload_n 3, 1) := by decide +kernel
theorem d36 : decode yB 36 = .ok (.invokestatic 177, 3) := by decide +kernel
theorem d39 : decode yB 39 = .ok (.astore 5, 2) := by decide +kernel
theorem d41 : decode yB 41 = .ok (.aload_n 0, 1) := by decide +kernel
theorem d42 : decode yB 42 = .ok (.aload 5, 2) := by decide +kernel
theorem d44 : decode yB 44 = .ok (.iload_n 3, 1) := by decide +kernel
theorem d45 : decode yB 45 = .ok (.invokestatic 47, 3) := by decide +kernel
theorem d48 : decode yB 48 = .ok (.putfield 15, 3) := by decide +kernel
theorem d51 : decode yB 51 = .ok (.aload_n 0, 1) := by decide +kernel
theorem d52 : decode yB 52 = .ok (.aload 5, 2) := by decide +kernel
theorem d54 : decode yB 54 = .ok (.putfield 9, 3) := by decide +kernel
theorem d57 : decode yB 57 = .ok (.return_, 1) := by decide +kernel
def site : List Cond := [.fieldLink "java/lang/String" 38 "java/lang/String" "COMPACT_STRINGS" "Z", Cmp3.tab, CodL.tab, .laysFinal "java/lang/String" "java/lang/String" "value" "[B", .fieldLink "java/lang/String" 9 "java/lang/String" "value" "[B", .laysFinal "java/lang/String" "java/lang/String" "coder" "B", .fieldLink "java/lang/String" 15 "java/lang/String" "coder" "B"] ++ objW "java/lang/String" 1 ++ staticW "java/lang/String" 177 Cmp3.yN ++ staticW "java/lang/String" 47 CodL.yN
def tab : Cond := tabOf yN yB 6 none site
def P (a : Addr) (D : Cell) (fV fC : Field) (b : Addr) (A : Cell) (z : Int32) (o len : Nat) (args : Array Value) (s : State) : Prop := args = #[.ref a, .ref b, .int (Int32.ofNat o), .int (Int32.ofNat len), .null] ∧ Blank "java/lang/String" a D s ∧ Found "java/lang/String" "value" "[B" fV s ∧ Found "java/lang/String" "coder" "B" fC s ∧ Ch b A s ∧ StaticIs s "java/lang/String" "COMPACT_STRINGS" "Z" (.int z) ∧ ¬ z = 0 ∧ 0 < len ∧ o + len ≤ A.slots.size ∧ len ≤ 536870912 ∧ ∀ i, i < len → ¬ 255 < cv A (o + i)
def E (a : Addr) (D : Cell) (fV fC : Field) (A : Cell) (o len : Nat) (r : Option Value) (s u : State) : Prop := Got a D fV fC A o len r s u
/-- len > 0, no char of the range above 255: a Latin-1 String of their low bytes -/
theorem law (l : Launch) (a : Addr) (D : Cell) (fV fC : Field) (b : Addr) (A : Cell) (z : Int32) (o len : Nat) : Law l yN 5 4 2 35 yB 6 none site (P a D fV fC b A z o len) (E a D fV fC A o len) [⟨a, fC.slot⟩, ⟨a, fV.slot⟩] 1 len := by
  refine Law.of_walk (plainFor_of_name (by decide +kernel)) (by decide +kernel) (by decide +kernel) (by decide) (fun _ _ h => by rw [h.1]; rfl) (fun _ U U' hal hh h => ⟨h.1, h.2.1.mv hal hh, h.2.2.1.al hal, h.2.2.2.1.al hal, h.2.2.2.2.1.mv hal hh, h.2.2.2.2.2.1.there hal hh, h.2.2.2.2.2.2⟩) (fun r U U' V V' h1 hal h2 h => Got.mv r U U' V V' h1 hal h2 h) ?_
  intro p e s m args below meth c s₁ X0 hexec hbytes hml hret hlk hnm hown hh0 W hP
  obtain ⟨rfl, hB, f1, f2, hA, s1, hz, l0, l1, l2, hp⟩ := hP
  have a31 := hA.1.2.2.2
  have c1 : Steps p.tables e below (s₁.setTop (entryFrame m #[.ref a, .ref b, .int (Int32.ofNat o), .int (Int32.ofNat len), .null] 6)) (s₁.setTop (mkF m 0 #[.val (.ref a), .val (.ref b), .val (.int (Int32.ofNat o)), .val (.int (Int32.ofNat len)), .val .null, .unset] [])) := entry rfl
  have c2 : Steps p.tables e below (s₁.setTop (entryFrame m #[.ref a, .ref b, .int (Int32.ofNat o), .int (Int32.ofNat len), .null] 6)) (s₁.setTop (mkF m 1 #[.val (.ref a), .val (.ref b), .val (.int (Int32.ofNat o)), .val (.int (Int32.ofNat len)), .val .null, .unset] [.ref a])) := c1.trans (by
    refine XS.aloadN X0.here hexec rfl (hb hbytes d0) rfl rfl ?_
    exact Steps.refl _)
  obtain ⟨T3, X3, q3, st3⟩ := X0.oinit hexec hown (wks W (objW "java/lang/String" 1)) (g := (mkF m 1 #[.val (.ref a), .val (.ref b), .val (.int (Int32.ofNat o)), .val (.int (Int32.ofNat len)), .val .null, .unset] [.ref a])) rfl (by rw [hml]; rfl) (rest := []) rfl (hb hbytes d1) (W := 0) (by show 2 * 0 + 0 ≤ _; decide) (Nat.le_of_ble_eq_true rfl) (Nat.le_of_ble_eq_true rfl)
  have hh3 := q3.trans hh0
  have c4 : Steps p.tables e below (s₁.setTop (entryFrame m #[.ref a, .ref b, .int (Int32.ofNat o), .int (Int32.ofNat len), .null] 6)) (T3.setTop (mkF m 27 #[.val (.ref a), .val (.ref b), .val (.int (Int32.ofNat o)), .val (.int (Int32.ofNat len)), .val .null, .unset] [])) := (c2.trans (st3 _ (Steps.refl _))).trans (by
    refine XS.iloadN X3.here hexec rfl (hb hbytes d4) rfl ?_
    refine XS.ifYes X3.here hexec rfl (pc0 := 5) rfl (hb hbytes d5) rfl (i0_ne_t (nz32 (by omega) l0)) (by decide) rfl ?_
    exact Steps.refl _)
  obtain ⟨T5, X5, q5, st5⟩ := X3.sget hexec hown (wk W (.fieldLink "java/lang/String" 38 "java/lang/String" "COMPACT_STRINGS" "Z")) s1 (fun _ _ h => by rw [hh3]; exact h) (g := (mkF m 27 #[.val (.ref a), .val (.ref b), .val (.int (Int32.ofNat o)), .val (.int (Int32.ofNat len)), .val .null, .unset] [])) rfl (hb hbytes d27)
  have hh5 := q5.trans hh3
  have c6 : Steps p.tables e below (s₁.setTop (entryFrame m #[.ref a, .ref b, .int (Int32.ofNat o), .int (Int32.ofNat len), .null] 6)) (T5.setTop (mkF m 30 #[.val (.ref a), .val (.ref b), .val (.int (Int32.ofNat o)), .val (.int (Int32.ofNat len)), .val .null, .unset] [.int z])) := c4.trans (st5 _ (Steps.refl _))
  have c7 : Steps p.tables e below (s₁.setTop (entryFrame m #[.ref a, .ref b, .int (Int32.ofNat o), .int (Int32.ofNat len), .null] 6)) (T5.setTop (mkF m 36 #[.val (.ref a), .val (.ref b), .val (.int (Int32.ofNat o)), .val (.int (Int32.ofNat len)), .val .null, .unset] [.int (Int32.ofNat len), .int (Int32.ofNat o), .ref b])) := c6.trans (by
    refine XS.ifNo X5.here hexec rfl (hb hbytes d30) rfl (i0_eq_f hz) ?_
    refine XS.aloadN X5.here hexec rfl (hb hbytes d33) rfl rfl ?_
    refine XS.iloadN X5.here hexec rfl (hb hbytes d34) rfl ?_
    refine XS.iloadN X5.here hexec rfl (hb hbytes d35) rfl ?_
    exact Steps.refl _)
  obtain ⟨v8, T8, X8, E8, g8⟩ := X5.callS hexec (Cmp3.law l b A o len) hown (wks W (staticW "java/lang/String" 177 Cmp3.yN)) (wk W Cmp3.tab) (W := 0) (Nat.le_of_ble_eq_true rfl) (Nat.le_of_ble_eq_true rfl) (Nat.le_refl _) (by show 0 + len ≤ len; omega) (g := (mkF m 36 #[.val (.ref a), .val (.ref b), .val (.int (Int32.ofNat o)), .val (.int (Int32.ofNat len)), .val .null, .unset] [.int (Int32.ofNat len), .int (Int32.ofNat o), .ref b])) rfl (by rw [hml]; rfl) c7 (argsL := [.ref b, .int (Int32.ofNat o), .int (Int32.ofNat len)]) (rest := []) rfl rfl (by show 2 * 0 + 0 ≤ _; decide) (hb hbytes d36) (⟨rfl, hA.mv X5.warmed.alike hh5, l1, l2, hp⟩)
  obtain ⟨e8, z8⟩ := E8
  obtain ⟨rfl, N, n1, n2, n3, n4, n5, n6⟩ := NewArr.mv _ T5 s _ _ hh5.symm (Vm.Alike.refl _) rfl e8
  rw [hh5] at z8
  have hB1 := hB.keep X8.warmed.alike (n6 _ _ hB.1)
  have hne : s.heap.size ≠ a := (Nat.ne_of_lt (Array.getElem?_eq_some_iff.mp hB.1).1).symm
  have c9 : Steps p.tables e below (s₁.setTop (entryFrame m #[.ref a, .ref b, .int (Int32.ofNat o), .int (Int32.ofNat len), .null] 6)) (T8.setTop (mkF m 39 #[.val (.ref a), .val (.ref b), .val (.int (Int32.ofNat o)), .val (.int (Int32.ofNat len)), .val .null, .unset] [.ref s.heap.size])) := g8
  have c10 : Steps p.tables e below (s₁.setTop (entryFrame m #[.ref a, .ref b, .int (Int32.ofNat o), .int (Int32.ofNat len), .null] 6)) (T8.setTop (mkF m 45 #[.val (.ref a), .val (.ref b), .val (.int (Int32.ofNat o)), .val (.int (Int32.ofNat len)), .val .null, .val (.ref s.heap.size)] [.int (Int32.ofNat N.slots.size), .ref s.heap.size, .ref a])) := by
    have hc : Steps p.tables e below (s₁.setTop (entryFrame m #[.ref a, .ref b, .int (Int32.ofNat o), .int (Int32.ofNat len), .null] 6)) (T8.setTop (mkF m 45 #[.val (.ref a), .val (.ref b), .val (.int (Int32.ofNat o)), .val (.int (Int32.ofNat len)), .val .null, .val (.ref s.heap.size)] [.int (Int32.ofNat len), .ref s.heap.size, .ref a])) := c9.trans (by
      refine XS.astore X8.here hexec rfl (hb hbytes d39) rfl rfl rfl ?_
      refine XS.aloadN X8.here hexec rfl (hb hbytes d41) rfl rfl ?_
      refine XS.aload X8.here hexec rfl (hb hbytes d42) rfl rfl ?_
      refine XS.iloadN X8.here hexec rfl (hb hbytes d44) rfl ?_
      exact Steps.refl _)
    rw [n4]; exact hc
  obtain ⟨v11, T11, X11, E11, g11⟩ := X8.callS hexec (CodL.law l s.heap.size N) hown (wks W (staticW "java/lang/String" 47 CodL.yN)) (wk W CodL.tab) (W := 1) (Nat.le_of_ble_eq_true rfl) (Nat.le_of_ble_eq_true rfl) (Nat.le_refl _) (by show 0 + len + 0 ≤ len; omega) (g := (mkF m 45 #[.val (.ref a), .val (.ref b), .val (.int (Int32.ofNat o)), .val (.int (Int32.ofNat len)), .val .null, .val (.ref s.heap.size)] [.int (Int32.ofNat N.slots.size), .ref s.heap.size, .ref a])) rfl (by rw [hml]; rfl) c10 (argsL := [.ref s.heap.size, .int (Int32.ofNat N.slots.size)]) (rest := [.ref a]) rfl rfl (by show 2 * 0 + (1 + 0) ≤ _; decide) (hb hbytes d45) (⟨rfl, n1⟩)
  obtain ⟨rfl, q11⟩ := E11
  have hB11 := hB1.mv (X8.warmed.alike.symm.trans X11.warmed.alike) q11
  have c12 : Steps p.tables e below (s₁.setTop (entryFrame m #[.ref a, .ref b, .int (Int32.ofNat o), .int (Int32.ofNat len), .null] 6)) (T11.setTop (mkF m 48 #[.val (.ref a), .val (.ref b), .val (.int (Int32.ofNat o)), .val (.int (Int32.ofNat len)), .val .null, .val (.ref s.heap.size)] [.int 0, .ref a])) := g11
  obtain ⟨T13, X13, p13, bl13, sl13, st13⟩ := X11.finit hexec hown (wk W (.fieldLink "java/lang/String" 15 "java/lang/String" "coder" "B")) (Or.inr ⟨_, (wk W (.laysFinal "java/lang/String" "java/lang/String" "coder" "B"))⟩) (Or.inl ⟨rfl, hnm⟩) f2 (Or.inl rfl) hB11 (t := .byte) (by decide +kernel) rfl (g := (mkF m 48 #[.val (.ref a), .val (.ref b), .val (.int (Int32.ofNat o)), .val (.int (Int32.ofNat len)), .val .null, .val (.ref s.heap.size)] [.int 0, .ref a])) rfl (rest := []) rfl (hb hbytes d48)
  have c14 : Steps p.tables e below (s₁.setTop (entryFrame m #[.ref a, .ref b, .int (Int32.ofNat o), .int (Int32.ofNat len), .null] 6)) (T13.setTop (mkF m 54 #[.val (.ref a), .val (.ref b), .val (.int (Int32.ofNat o)), .val (.int (Int32.ofNat len)), .val .null, .val (.ref s.heap.size)] [.ref s.heap.size, .ref a])) := (c12.trans (st13 _ (Steps.refl _))).trans (by
    refine XS.aloadN X13.here hexec rfl (hb hbytes d51) rfl rfl ?_
    refine XS.aload X13.here hexec rfl (hb hbytes d52) rfl rfl ?_
    exact Steps.refl _)
  obtain ⟨T15, X15, p15, bl15, sl15, st15⟩ := X13.finit hexec hown (wk W (.fieldLink "java/lang/String" 9 "java/lang/String" "value" "[B")) (Or.inr ⟨_, (wk W (.laysFinal "java/lang/String" "java/lang/String" "value" "[B"))⟩) (Or.inl ⟨rfl, hnm⟩) f1 (Or.inl rfl) bl13 (t := (.array .byte)) (by decide +kernel) rfl (g := (mkF m 54 #[.val (.ref a), .val (.ref b), .val (.int (Int32.ofNat o)), .val (.int (Int32.ofNat len)), .val .null, .val (.ref s.heap.size)] [.ref s.heap.size, .ref a])) rfl (rest := []) rfl (hb hbytes d54)
  have c16 : Steps p.tables e below (s₁.setTop (entryFrame m #[.ref a, .ref b, .int (Int32.ofNat o), .int (Int32.ofNat len), .null] 6)) (T15.setTop (mkF m 57 #[.val (.ref a), .val (.ref b), .val (.int (Int32.ofNat o)), .val (.int (Int32.ofNat len)), .val .null, .val (.ref s.heap.size)] [])) := c14.trans (st15 _ (Steps.refl _))
  have ap := apart (Or.inr ⟨_, (wk W (.laysFinal "java/lang/String" "java/lang/String" "value" "[B"))⟩) (Or.inr ⟨_, (wk W (.laysFinal "java/lang/String" "java/lang/String" "coder" "B"))⟩) f1 f2 (t₁ := .array .byte) (t₂ := .byte) (by decide +kernel) (by decide +kernel) (by decide)
  have al := X8.warmed.alike.symm.trans X15.warmed.alike
  have n7 : T11.heap[s.heap.size]? = some N := by rw [q11]; exact n1.1
  exact ⟨T15, none, _, _, _, X15, by simp, rfl, by omega, (fun _ => rfl), ⟨rfl, _, N, bl15, ((Same.refl D _).set _ (by simp)).set _ (by simp), sl15, (Cell.slots_setSlot_ne _ ap).trans sl13, n1.keep al (p15.other hne (p13.other hne n7)), n2, by rw [al.findClass]; exact n3, n4, n5, fun y c h1 h2 => p15.other h1 (p13.other h1 (by rw [q11]; exact n6 y c h2)), by rw [p15.2.2, p13.2.2, q11]; exact z8⟩, fun fs hl => c16.trans (X15.returnOut hexec hret (hb hbytes d57) hl)⟩
end New4
namespace New1
def yN : MethodName := ⟨"java/lang/String", "<init>", "([C)V"⟩
abbrev yB : ByteArray := jdk_42_method_3_code
theorem d0 : decode yB 0 = .ok (.aload_n 0, 1) := by decide +kernel
theorem d1 : decode yB 1 = .ok (.aload_n 1, 1) := by decide +kernel
theorem d2 : decode yB 2 = .ok (.iconst 0, 1) := by decide +kernel
theorem d3 : decode yB 3 = .ok (.aload_n 1, 1) := by decide +kernel
theorem d4 : decode yB 4 = .ok (.arraylength, 1) := by decide +kernel
theorem d5 : decode yB 5 = .ok (.aconst_null, 1) := by decide +kernel
theorem d6 : decode yB 6 = .ok (.invokespecial 27, 3) := by decide +kernel
theorem d9 : decode yB 9 = .ok (.return_, 1) := by decide +kernel
def site : List Cond := [New4.tab] ++ initW "java/lang/String" 27 New4.yN
def tab : Cond := tabOf yN yB 2 none site
def P (a : Addr) (D : Cell) (fV fC : Field) (b : Addr) (A : Cell) (z : Int32) (args : Array Value) (s : State) : Prop := args = #[.ref a, .ref b] ∧ Blank "java/lang/String" a D s ∧ Found "java/lang/String" "value" "[B" fV s ∧ Found "java/lang/String" "coder" "B" fC s ∧ Ch b A s ∧ StaticIs s "java/lang/String" "COMPACT_STRINGS" "Z" (.int z) ∧ ¬ z = 0 ∧ 0 < A.slots.size ∧ A.slots.size ≤ 536870912 ∧ ∀ i, i < A.slots.size → ¬ 255 < cv A i
def E (a : Addr) (D : Cell) (fV fC : Field) (A : Cell) (r : Option Value) (s u : State) : Prop := Got a D fV fC A 0 A.slots.size r s u
/-- new String(chars), not empty, no char above 255: a Latin-1 String of their low bytes -/
theorem law (l : Launch) (a : Addr) (D : Cell) (fV fC : Field) (b : Addr) (A : Cell) (z : Int32) : Law l yN 2 1 3 52 yB 2 none site (P a D fV fC b A z) (E a D fV fC A) [⟨a, fC.slot⟩, ⟨a, fV.slot⟩] 1 A.slots.size := by
  refine Law.of_walk (plainFor_of_name (by decide +kernel)) (by decide +kernel) (by decide +kernel) (by decide) (fun _ _ h => by rw [h.1]; rfl) (fun _ U U' hal hh h => ⟨h.1, h.2.1.mv hal hh, h.2.2.1.al hal, h.2.2.2.1.al hal, h.2.2.2.2.1.mv hal hh, h.2.2.2.2.2.1.there hal hh, h.2.2.2.2.2.2⟩) (fun r U U' V V' h1 hal h2 h => Got.mv r U U' V V' h1 hal h2 h) ?_
  intro p e s m args below meth c s₁ X0 hexec hbytes hml hret hlk hnm hown hh0 W hP
  obtain ⟨rfl, hB, f1, f2, hA, s1, hz, l0, l2, hp⟩ := hP
  have c1 : Steps p.tables e below (s₁.setTop (entryFrame m #[.ref a, .ref b] 2)) (s₁.setTop (mkF m 0 #[.val (.ref a), .val (.ref b)] [])) := entry rfl
  have c2 : Steps p.tables e below (s₁.setTop (entryFrame m #[.ref a, .ref b] 2)) (s₁.setTop (mkF m 6 #[.val (.ref a), .val (.ref b)] [.null, .int (Int32.ofNat A.slots.size), .int 0, .ref b, .ref a])) := c1.trans (by
    refine XS.aloadN X0.here hexec rfl (hb hbytes d0) rfl rfl ?_
    refine XS.aloadN X0.here hexec rfl (hb hbytes d1) rfl rfl ?_
    refine iconstV X0.here hexec rfl 0 (hb hbytes d2) (by decide) ?_
    refine XS.aloadN X0.here hexec rfl (hb hbytes d3) rfl rfl ?_
    refine X0.alen hexec (hA.1.mv X0.warmed.alike hh0) rfl rfl (hb hbytes d4) ?_
    refine XS.aconstNull X0.here hexec rfl (hb hbytes d5) ?_
    exact Steps.refl _)
  obtain ⟨v3, T3, X3, E3, g3⟩ := X0.callN hexec (New4.law l a D fV fC b A z 0 A.slots.size) rfl hown (wks W (initW "java/lang/String" 27 New4.yN)) (W New4.tab (by simp only [site, List.mem_cons, List.mem_append, true_or, or_true])) (W := 0) (Nat.le_of_ble_eq_true rfl) (Nat.le_of_ble_eq_true rfl) (Nat.le_refl _) (by show 0 + A.slots.size ≤ A.slots.size; omega) (g := (mkF m 6 #[.val (.ref a), .val (.ref b)] [.null, .int (Int32.ofNat A.slots.size), .int (Int32.ofNat 0), .ref b, .ref a])) rfl (by rw [hml]; rfl) c2 (argsL := [.ref b, .int (Int32.ofNat 0), .int (Int32.ofNat A.slots.size), .null]) (rest := []) rfl rfl (by show 2 * 0 + 0 ≤ _; decide) (hb hbytes d6) (⟨rfl, hB.mv X0.warmed.alike hh0, f1.al X0.warmed.alike, f2.al X0.warmed.alike, hA.mv X0.warmed.alike hh0, s1.there X0.warmed.alike hh0, hz, l0, by omega, l2, fun i hi => by rw [Nat.zero_add]; exact hp i hi⟩)
  have e0 := Got.mv _ s₁ s _ _ hh0.symm (Vm.Alike.refl _) rfl E3
  obtain rfl := e0.1
  have c4 : Steps p.tables e below (s₁.setTop (entryFrame m #[.ref a, .ref b] 2)) (T3.setTop (mkF m 9 #[.val (.ref a), .val (.ref b)] [])) := g3
  exact ⟨T3, none, _, _, _, X3, by simp, rfl, by omega, (fun _ => rfl), e0, fun fs hl => c4.trans (X3.returnOut hexec hret (hb hbytes d9) hl)⟩
theorem pays {l : Launch} {R : Room} {p : Program} {e : Env} {below : List Frame} {s : State} {sargs : Array Value} {len W : Nat} (a : Addr) (D : Cell) (fV fC : Field) (b : Addr) (A : Cell) (z : Int32) (htab : tab.before sargs s = true) (hfr : 4 ≤ R.frames) (hlo : W + 65 ≤ R.locals) :
    Back l R p e below s sargs yN len W (fun A₁ a₁ => A₁.cells + 1 ≤ R.cells ∧ A₁.slots + A.slots.size ≤ R.slots ∧ P a D fV fC b A z a₁ A₁.U) (fun A₁ _ v₁ B₁ => E a D fV fC A v₁ A₁.U B₁.U ∧ B₁.locs = A₁.locs ++ [⟨a, fC.slot⟩, ⟨a, fV.slot⟩] ∧ B₁.cells = A₁.cells + 1 ∧ B₁.slots = A₁.slots + A.slots.size) :=
  (law l a D fV fC b A z).pays htab hfr (by omega)
end New1
/-- the byte, read back as charAt reads it, is the char -/
theorem lo8_mask {x : Int32} (h0 : ¬ x < 0) (h1 : ¬ 255 < x) : lo8 x &&& 255 = x := by
  have t : ∀ k : Fin 256, lo8 (Int32.ofNat k.val) &&& 255 = Int32.ofNat k.val := by decide +kernel
  rw [Int32.lt_iff_toInt_lt] at h0 h1
  have e0 : (0 : Int32).toInt = 0 := rfl
  have e1 : (255 : Int32).toInt = 255 := rfl
  obtain ⟨k, hk⟩ : ∃ k : Nat, x.toInt = k := ⟨x.toInt.toNat, by omega⟩
  have hx : x = Int32.ofNat k := Int32.toInt_inj.mp (by rw [hk, Int32.toInt_ofNat_small (by omega)])
  rw [hx]
  exact t ⟨k, by omega⟩
end StrChars
namespace StrChars.Road
open Jvm Sem ClassFile Op Lib Jvm.Stand Jvm.Free Jvm.Free.XT
open Jvm.Lib.Cold (StaticIs)
abbrev ST : String := "java/lang/String"
/-- every table word that New1's law asks, flat -/
abbrev words : List Jvm.Cond := [.code New1.yN New1.yB 2 none, .initialized ST, .methodLink ST 27 New4.yN, .instanceMethod New4.yN,
  .code New4.yN New4.yB 6 none, .fieldLink ST 38 ST "COMPACT_STRINGS" "Z", .laysFinal ST ST "value" "[B", .fieldLink ST 9 ST "value" "[B", .laysFinal ST ST "coder" "B", .fieldLink ST 15 ST "coder" "B",
  .methodLink ST 1 Lib.objectInit, .instanceMethod Lib.objectInit, .code Lib.objectInit ⟨#[0xb1]⟩ 1 none, .methodLink ST 177 Cmp3.yN, .static Cmp3.yN, .methodLink ST 47 CodL.yN, .static CodL.yN,
  .code Cmp3.yN Cmp3.yB 6 (some (.array .byte)), .initialized U16, .arrayClass .byte, .methodLink U16 115 Cmp5.yN, .static Cmp5.yN, .code Cmp5.yN Cmp5.yB 7 (some .int), .code CodL.yN CodL.yB 2 (some .byte)]
theorem tab_of {a : Array Value} {s : State} (h : ∀ w ∈ words, w.before a s = true) : New1.tab.before a s = true := by
  have h5 : Cmp5.tab.before a s = true := unparts (wk h (.code Cmp5.yN Cmp5.yB 7 (some .int))) (wks h (.initialized Cmp5.yN.cls :: Cmp5.site))
  have hc : CodL.tab.before a s = true := unparts (wk h (.code CodL.yN CodL.yB 2 (some .byte))) (wks h (.initialized CodL.yN.cls :: CodL.site))
  have q5 : ∀ w ∈ Cmp5.tab :: words, w.before a s = true := fun w hw => (List.mem_cons.mp hw).elim (fun e => e ▸ h5) (h w)
  have h3 : Cmp3.tab.before a s = true := unparts (wk q5 (.code Cmp3.yN Cmp3.yB 6 (some (.array .byte)))) (wks q5 (.initialized Cmp3.yN.cls :: Cmp3.site))
  have q3 : ∀ w ∈ Cmp3.tab :: CodL.tab :: words, w.before a s = true := fun w hw => (List.mem_cons.mp hw).elim (fun e => e ▸ h3) fun hw => (List.mem_cons.mp hw).elim (fun e => e ▸ hc) (h w)
  have h4 : New4.tab.before a s = true := unparts (wk q3 (.code New4.yN New4.yB 6 none)) (wks q3 (.initialized New4.yN.cls :: New4.site))
  have q4 : ∀ w ∈ New4.tab :: words, w.before a s = true := fun w hw => (List.mem_cons.mp hw).elim (fun e => e ▸ h4) (h w)
  exact unparts (wk q4 (.code New1.yN New1.yB 2 none)) (wks q4 (.initialized New1.yN.cls :: New1.site))
/-- the words ride from the start Z to the walk's own state -/
theorem moved {Z s : State} {a0 args : Array Value} (hZ : Z.Warmed39 s.vm) (hw : ∀ d ∈ words, d.before a0 Z = true) : ∀ d ∈ words, d.before args s = true := fun d hd => by
  have q := hw d hd
  have t : ∀ d ∈ words, d = .arrayClass .byte ∨ (d.onTables && d.keepsFace) = true := by decide +kernel
  rcases t d hd with rfl | t
  · exact RoadKit.mvA hZ q
  · exact RoadKit.mv hZ q t
/-- WHAT COMES BACK, over the tables of the start Z: h the heap at the call, h' behind it -/
def Q (Z : State) (x : Addr) (A : Cell) (h : Heap) (v : Option Value) (h' : Heap) (L : List Loc) : Prop := v = none ∧ (∀ y ∈ L, y.base = x) ∧ RoadKit.Keep h h' [x] ∧ h'.size = h.size + 1 ∧ RoadKit.Exa Z h' x ST ∧ RoadKit.Fld Z h' x ST "value" "[B" (.ref h.size) ∧ RoadKit.Fld Z h' x ST "coder" "B" (.int 0) ∧
  (∃ V : Cell, RoadKit.Arr Z h' h.size V .byte ∧ V.vm = .none ∧ Z.vm.findClass "[B" = some V.cls ∧ V.slots.size = A.slots.size ∧ ∀ j, j < A.slots.size → V.slots[j]? = some (.int (lo8 (cv A j)))) ∧
  ∀ (O n d : String) (w : Value), RoadKit.Fld Z h x O n d w → RoadKit.slotOf Z O n d ≠ RoadKit.slotOf Z ST "value" "[B" → RoadKit.slotOf Z O n d ≠ RoadKit.slotOf Z ST "coder" "B" → RoadKit.Fld Z h' x O n d w
/-- **new String(chars) AT A CALL, IN THE ROAD'S FORM**: for specialBack behind newO: x the fresh String, b the char[] with the cell A -/
theorem back {p : Program} {l : Launch} {e : Env} {R : Room} {s : State} {args : Array Value} {below : List Frame} {len W : Nat} {Z : State} {a0 : Array Value} {h : Heap} (hZ : Z.Warmed39 s.vm) (hw : ∀ d ∈ words, d.before a0 Z = true) {kI : Nat} (wi : (Jvm.Cond.instantiable ST kI).before a0 Z = true)
    {x b : Addr} {A : Cell} {z : Int32} {v0 c0 : Value} (E : RoadKit.Exa Z h x ST) (V : RoadKit.Fld Z h x ST "value" "[B" v0) (C : RoadKit.Fld Z h x ST "coder" "B" c0) (K : RoadKit.Arr Z h b A .char) (hty : Typed .char A) (S : RoadKit.Sta Z h ST "COMPACT_STRINGS" "Z" (.int z)) (hz : ¬ z = 0)
    (l0 : 0 < A.slots.size) (l2 : A.slots.size ≤ 536870912) (hp : ∀ i, i < A.slots.size → ¬ 255 < cv A i) (hfr : 4 ≤ R.frames) (hlo : W + 65 ≤ R.locals) :
    Back l R p e below s args New1.yN len W (fun P a => a = #[.ref x, .ref b] ∧ P.U.heap = h ∧ P.cells + 1 ≤ R.cells ∧ P.slots + A.slots.size ≤ R.slots)
      (fun P _ v B => ∃ L, Q Z x A h v B.U.heap L ∧ B.locs = P.locs ++ L ∧ B.cells = P.cells + 1 ∧ B.slots = P.slots + A.slots.size) := by
  intro m meth c P g ig mk a X hg hsize hdg hW hn hp'
  obtain ⟨rfl, rfl, r1, r2⟩ := hp'
  have al : Z.vm.Alike P.U.vm := hZ.alike.trans X.warmed.alike
  obtain ⟨D, cfV, kV, iV, fV, hD, gV, stV, knV, obV, asV, slV⟩ := id V
  obtain ⟨D', cfC, kC, iC, fC, hD', gC, stC, -, -, asC, slC⟩ := id C
  cases hD.symm.trans hD'
  obtain ⟨D2, kD, e1, e2, e3, e4, e5⟩ := id E
  cases hD.symm.trans e1
  obtain ⟨c2, k2, i1, i2, i3, -⟩ := Cond.instantiable_spec wi
  cases e2.symm.trans i1
  cases e3.symm.trans i2
  obtain ⟨kU, u1, u2⟩ := al.2.2 _ _ e3
  have hB : Blank ST x D P.U := ⟨hD, ⟨knV, fun q hq => by rw [hq] at obV; cases obV⟩, by rw [al.findClass]; exact e2, kU, u1, by rw [u2]; exact i3, by rw [u2]; exact e5 i3⟩
  have F1 : Found ST "value" "[B" fV P.U := ⟨SBG.found_only al ⟨cfV, kV, iV, gV⟩, stV⟩
  have F2 : Found ST "coder" "B" fC P.U := ⟨SBG.found_only al ⟨cfC, kC, iC, gC⟩, stC⟩
  have hA : Ch b A P.U := ⟨⟨K.1, State.isArrayOf_alike al K.2.1, K.2.2, by omega⟩, hty⟩
  have hS : StaticIs P.U ST "COMPACT_STRINGS" "Z" (.int z) := by
    obtain ⟨cfS, iS, kS, fS, st, cS, t1, t2, t3, t4, t5, t6, t7⟩ := S
    exact StaticIs.there (s := { Z with heap := P.U.heap }) ⟨cfS, iS, kS, fS, st, cS, t1, t2, t3, t4, t5, (fun q => by rw [q] at t6; cases t6), t7⟩ al rfl
  obtain ⟨v, B, X', ⟨⟨hv, E', V', q1, q2, q3, q4, q5, q6, q7, q8, q9, q10, q11⟩, hl, hc, hs⟩, st⟩ := New1.pays x D fV fC b A z (tab_of (moved hZ hw)) hfr hlo m meth c P g ig mk _ X hg hsize hdg hW hn ⟨r1, r2, rfl, hB, F1, F2, hA, hS, hz, l0, l2, hp⟩
  have al' : Z.vm.Alike B.U.vm := hZ.alike.trans X'.warmed.alike
  have hsz : E'.slots.size = D.slots.size := by
    obtain ⟨-, -, -, kB, w1, w2, w3⟩ := q1
    obtain ⟨kB', y1, y2⟩ := al'.2.2 _ _ e3
    rw [q2.2.1] at w1
    cases w1.symm.trans y1
    rw [w3, e5 i3, y2]
  refine ⟨v, B, X', ⟨_, ⟨hv, ?_, ⟨by omega, fun y cy hy hn' => q10 y cy (by simpa using hn') hy, fun y cy hy => ?_⟩, q11, ⟨E', _, q1.1, by rw [q2.2.1]; exact e2, by rw [q2.2.1]; exact e3, by rw [q2.1]; exact obV, fun _ => by rw [hsz]; exact e5 i3⟩,
    ⟨E', cfV, kV, iV, fV, q1.1, gV, stV, by rw [q2.1]; exact knV, by rw [q2.1]; exact obV, by rw [q2.2.1]; exact asV, q3⟩, ⟨E', cfC, kC, iC, fC, q1.1, gC, stC, by rw [q2.1]; exact knV, by rw [q2.1]; exact obV, by rw [q2.2.1]; exact asC, q4⟩,
    ⟨V', ⟨q5.1, State.isArrayOf_alike al'.symm q5.2.1, q5.2.2.1⟩, q6, by rw [← al'.findClass]; exact q7, q8, fun j hj => by have := q9 j hj; rwa [Nat.zero_add] at this⟩, fun O n d w F n1 n2 => ?_⟩, hl, hc, hs⟩, st⟩
  · intro y hy
    simp only [List.mem_cons, List.not_mem_nil, or_false] at hy
    rcases hy with rfl | rfl <;> rfl
  · by_cases q : y = x
    · subst q
      cases hD.symm.trans hy
      exact ⟨E', q1.1, q2.2.1, q2.1, hsz⟩
    · exact ⟨cy, q10 y cy q hy, rfl, rfl, rfl⟩
  · obtain ⟨D3, cf, k, i, f, g1, g2, g3, g4, g5, g6, g7⟩ := F
    cases hD.symm.trans g1
    simp only [RoadKit.slotOf, g2, gV, gC, Option.map_some, Option.getD_some] at n1 n2
    exact ⟨E', cf, k, i, f, q1.1, g2, g3, by rw [q2.1]; exact g4, by rw [q2.1]; exact g5, by rw [q2.2.1]; exact g6, by rw [q2.2.2 f.slot (by simp [n1, n2])]; exact g7⟩
end StrChars.Road
namespace StrChars.Road
open Jvm Sem ClassFile Op Lib Jvm.Stand Jvm.Free Jvm.Free.XT
/-- WHAT COMES BACK, the byte[] as a list of values -/
def QA (Z : State) (x : Addr) (zn : Int32) (cs : List Int32) (h : Heap) (v : Option Value) (h' : Heap) (L : List Loc) : Prop := v = none ∧ (∀ y ∈ L, y.base = x) ∧ RoadKit.Keep h h' [x] ∧ h'.size = h.size + 1 ∧ RoadKit.Exa Z h' x ST ∧ RoadKit.Fld Z h' x ST "value" "[B" (.ref h.size) ∧ RoadKit.Fld Z h' x ST "coder" "B" (.int 0) ∧
  (∃ kb, Z.vm.findClass "[B" = some kb ∧ RoadKit.Arv Z h' h.size kb .byte zn (cs.map fun c => .int (lo8 c)) (.int 0)) ∧
  ∀ (O n d : String) (w : Value), RoadKit.Fld Z h x O n d w → RoadKit.slotOf Z O n d ≠ RoadKit.slotOf Z ST "value" "[B" → RoadKit.slotOf Z O n d ≠ RoadKit.slotOf Z ST "coder" "B" → RoadKit.Fld Z h' x O n d w
/-- **new String(chars) AT A CALL, THE ARRAYS AS LISTS**: the char[] at b holds cs, not empty, no char above 255 -/
theorem backArv {p : Program} {l : Launch} {e : Env} {R : Room} {s : State} {args : Array Value} {below : List Frame} {len W : Nat} {Z : State} {a0 : Array Value} {h : Heap} (hZ : Z.Warmed39 s.vm) (hw : ∀ d ∈ words, d.before a0 Z = true) {kI : Nat} (wi : (Jvm.Cond.instantiable ST kI).before a0 Z = true)
    {x b : Addr} {k : ClassId} {zn z : Int32} {cs : List Int32} {dv v0 c0 : Value} (E : RoadKit.Exa Z h x ST) (V : RoadKit.Fld Z h x ST "value" "[B" v0) (C : RoadKit.Fld Z h x ST "coder" "B" c0) (K : RoadKit.Arv Z h b k .char zn (cs.map Value.int) dv) (S : RoadKit.Sta Z h ST "COMPACT_STRINGS" "Z" (.int z)) (hz : ¬ z = 0)
    (hlen : zn.toNatClampNeg = cs.length) (h0 : 0 < cs.length) (hbig : cs.length ≤ 536870912) (hall : ∀ c ∈ cs, ¬ 255 < c) (hfr : 4 ≤ R.frames) (hlo : W + 65 ≤ R.locals) :
    Back l R p e below s args New1.yN len W (fun P a => a = #[.ref x, .ref b] ∧ P.U.heap = h ∧ P.cells + 1 ≤ R.cells ∧ P.slots + cs.length ≤ R.slots)
      (fun P _ v B => ∃ L, QA Z x zn cs h v B.U.heap L ∧ B.locs = P.locs ++ L ∧ B.cells = P.cells + 1 ∧ B.slots = P.slots + cs.length) := by
  obtain ⟨A, K1, K2, K3, K4, K5, K6⟩ := K
  have e : A.slots.size = cs.length := K3.trans hlen
  have hat : ∀ (i : Nat) (hi : i < cs.length), A.slots[i]? = some (.int cs[i]) := fun i hi => by rw [K5 i (by omega)]; simp [List.getD_eq_getElem?_getD, hi]
  have hcv : ∀ (i : Nat) (hi : i < cs.length), cv A i = cs[i] := fun i hi => by unfold cv; rw [hat i hi]
  have hty : Typed .char A := fun i v hv => by
    have hi : i < A.slots.size := (Array.getElem?_eq_some_iff.mp hv).1
    have q := K5 i hi
    rw [hv] at q
    rw [Option.some.inj q]
    exact K6 i hi
  refine Back.mono (back hZ hw wi E V C K1 hty S hz (by omega) (by omega) (fun i hi => by rw [hcv i (by omega)]; exact hall _ (List.getElem_mem _)) hfr hlo) (fun P a hp => ⟨hp.1, hp.2.1, hp.2.2.1, by rw [e]; exact hp.2.2.2⟩) (fun P a v B hp hq => ?_)
  obtain ⟨L, ⟨q1, q2, q3, q4, q5, q6, q7, ⟨V', v1, v2, v3, v4, v5⟩, q9⟩, hl, hc, hs⟩ := hq
  refine ⟨L, ⟨q1, q2, q3, q4, q5, q6, q7, ⟨V'.cls, v3, V', v1, rfl, by rw [v4, e, hlen], K4, fun i hi => ?_, fun i hi => ?_⟩, q9⟩, hl, hc, by rw [hs, e]⟩
  · have hi' : i < cs.length := by omega
    rw [v5 i (by omega), hcv i hi']; simp [List.getD_eq_getElem?_getD, hi']
  · have hi' : i < cs.length := by omega
    simp only [List.getD_eq_getElem?_getD, List.getElem?_map, List.getElem?_eq_getElem hi', Option.map_some, Option.getD_some]
    exact fits_lo8 _
end StrChars.Road
namespace StrChars.Road
open Jvm Sem ClassFile Op Lib Jvm.Stand Jvm.Free Jvm.Free.XT
/-- WHAT COMES BACK, in the writer's own shape -/
def QV (Z : State) (x : Addr) (N : Int32) (bs : List Int32) (h : Heap) (n0 : Nat) (v : Option Value) (h' : Heap) (L : List Loc) : Prop := v = none ∧ RoadKit.Fr n0 L ∧ RoadKit.Keep h h' [x] ∧ RoadKit.Exa Z h' x ST ∧ RoadKit.Fld Z h' x ST "coder" "B" (.int 0) ∧
  ∃ (t : Addr) (kb : ClassId), n0 ≤ t ∧ h.size ≤ t ∧ ¬ t = x ∧ RoadKit.Fld Z h' x ST "value" "[B" (.ref t) ∧ RoadKit.Arv Z h' t kb .byte N (bs.map Value.int) (.int 0)
/-- **new String(chars) AT A CALL, FOR THE WRITER**: a char[] of n known ints, each 0 to 255 -/
theorem backV {p : Program} {l : Launch} {e : Env} {R : Room} {s : State} {args : Array Value} {below : List Frame} {len W : Nat} {Z : State} {a0 : Array Value} {h : Heap} (hZ : Z.Warmed39 s.vm) (hw : ∀ d ∈ words, d.before a0 Z = true) {kI : Nat} (wi : (Jvm.Cond.instantiable ST kI).before a0 Z = true)
    {x b : Addr} {kC : ClassId} {cs bs : List Int32} {d v0 c0 : Value} {z N : Int32} {n n0 : Nat} (hx0 : n0 ≤ x) (hh0 : n0 ≤ h.size) (E : RoadKit.Exa Z h x ST) (V : RoadKit.Fld Z h x ST "value" "[B" v0) (C : RoadKit.Fld Z h x ST "coder" "B" c0) (K : RoadKit.Arv Z h b kC .char N (cs.map Value.int) d) (S : RoadKit.Sta Z h ST "COMPACT_STRINGS" "Z" (.int z)) (hz : ¬ z = 0)
    (hn : cs.length = n) (hN : N = Int32.ofNat n) (l0 : 0 < n) (l2 : n ≤ 4000) (hp : ∀ c ∈ cs, ¬ c < 0 ∧ ¬ (255 : Int32) < c) (hb : bs = cs.map (fun c => c.toInt8.toInt32)) (hfr : 4 ≤ R.frames) (hlo : W + 65 ≤ R.locals) :
    Back l R p e below s args (⟨"java/lang/String", "<init>", "([C)V"⟩ : MethodName) len W (fun P a => a = #[.ref x, .ref b] ∧ P.U.heap = h ∧ P.cells + 1 ≤ R.cells ∧ P.slots + n ≤ R.slots)
      (fun P _ v B => ∃ L, QV Z x N bs h n0 v B.U.heap L ∧ B.locs = P.locs ++ L ∧ B.cells = P.cells + 1 ∧ B.slots = P.slots + n) := by
  subst hn hN hb
  refine Back.mono (backArv hZ hw wi E V C K S hz (n32 (by omega)) l0 (by omega) (fun c hc => (hp c hc).2) hfr hlo) (fun P a hp => hp) (fun P a v B hp hq => ?_)
  obtain ⟨L, ⟨q1, q2, q3, q4, q5, q6, q7, ⟨kb, v1, v2⟩, q9⟩, hl, hc, hs⟩ := hq
  exact ⟨L, ⟨q1, fun y hy => by rw [q2 y hy]; exact hx0, q3, q5, q7, h.size, kb, hh0, Nat.le_refl _, Nat.ne_of_gt E.lt, q6, by rw [List.map_map]; exact v2⟩, hl, hc, hs⟩
end StrChars.Road
namespace StrChars
open Jvm Sem ClassFile Op Lib Jvm.Stand Jvm.Free.XT Jvm.Free.ALB Jvm.Free.JM Jvm.Free
open Jvm.Lib.Cold (StaticIs)
def hi8 (x : Int32) : Int32 := lo8 (x >>> ((8 : Int32) &&& 31))
/-- what StringUTF16.getChar makes of two bytes -/
def pairCh (u v : Int32) : Int32 := (((u &&& 255) <<< ((0 : Int32) &&& 31)) ||| ((v &&& 255) <<< ((8 : Int32) &&& 31))).toUInt32.toUInt16.toUInt32.toInt32
theorem lo8_and (x : Int32) : (lo8 x &&& 255).toBitVec.toNat = x.toBitVec.toNat % 256 := by
  have h : (lo8 x).toBitVec = (x.toBitVec.signExtend 8).signExtend 32 := by rw [lo8, Int8.toBitVec_toInt32, Int32.toBitVec_toInt8]
  rw [Int32.toBitVec_and, BitVec.toNat_and, h]
  have e : ((x.toBitVec.signExtend 8).signExtend 32).toNat % 256 = x.toBitVec.toNat % 256 := by
    rw [BitVec.toNat_signExtend]
    have hlt := x.toBitVec.isLt
    simp only [BitVec.toNat_setWidth, BitVec.toNat_signExtend]
    split <;> split <;> omega
  rw [← e]
  exact Nat.and_two_pow_sub_one_eq_mod _ 8
theorem pair_says {c : Int32} (h0 : ¬ c < 0) (h1 : ¬ 65535 < c) : pairCh (lo8 c) (hi8 c) = c := by
  rw [Int32.lt_iff_toInt_lt] at h0 h1
  have e0 : (0 : Int32).toInt = 0 := rfl
  have e1 : (65535 : Int32).toInt = 65535 := rfl
  have hc : c.toInt = c.toBitVec.toNat := by
    have := c.toBitVec.isLt
    have e : c.toInt = c.toBitVec.toInt := rfl
    rw [e] at h0 h1
    rw [e]
    rw [BitVec.toInt_eq_toNat_cond] at h0 h1 ⊢
    split at h0 <;> split <;> omega
  have hn : c.toBitVec.toNat < 65536 := by omega
  have a1 := lo8_and c
  have a2 : (hi8 c &&& 255).toBitVec.toNat = c.toBitVec.toNat / 256 := by
    rw [hi8, lo8_and]
    have e : ((8 : Int32) &&& 31) = 8 := by decide
    rw [e, Int32.toBitVec_shiftRight]
    have e2 : ((8 : Int32).toBitVec.smod 32) = 8#32 := by decide
    rw [e2, BitVec.sshiftRight_eq', BitVec.toNat_sshiftRight_of_msb_false (by rw [BitVec.msb_eq_false_iff_two_mul_lt]; omega)]
    show c.toBitVec.toNat >>> 8 % 256 = _
    rw [Nat.shiftRight_eq_div_pow]
    omega
  unfold pairCh
  apply Int32.toBitVec_inj.mp
  apply BitVec.eq_of_toNat_eq
  have f0 : ((0 : Int32) &&& 31) = 0 := by decide
  have f8 : ((8 : Int32) &&& 31) = 8 := by decide
  rw [f0, f8]
  have g : (((lo8 c &&& 255) <<< (0 : Int32)) ||| ((hi8 c &&& 255) <<< (8 : Int32))).toBitVec.toNat = c.toBitVec.toNat := by
    rw [Int32.toBitVec_or, Int32.toBitVec_shiftLeft, Int32.toBitVec_shiftLeft]
    have s0 : ((0 : Int32).toBitVec.smod 32) = 0#32 := by decide
    have s8 : ((8 : Int32).toBitVec.smod 32) = 8#32 := by decide
    rw [s0, s8, BitVec.toNat_or]
    simp only [BitVec.shiftLeft_eq', BitVec.toNat_shiftLeft, a1, a2]
    show (c.toBitVec.toNat % 256) <<< 0 % 2 ^ 32 ||| (c.toBitVec.toNat / 256) <<< 8 % 2 ^ 32 = _
    rw [Nat.shiftLeft_zero, Nat.mod_eq_of_lt (show c.toBitVec.toNat % 256 < 2 ^ 32 by omega), Nat.mod_eq_of_lt (show (c.toBitVec.toNat / 256) <<< 8 < 2 ^ 32 by rw [Nat.shiftLeft_eq]; omega), Nat.or_comm, ← Nat.shiftLeft_add_eq_or_of_lt (by omega), Nat.shiftLeft_eq]
    omega
  show BitVec.toNat (((((lo8 c &&& 255) <<< (0 : Int32)) ||| ((hi8 c &&& 255) <<< (8 : Int32))).toBitVec.setWidth 16).setWidth 32) = _
  rw [BitVec.toNat_setWidth, BitVec.toNat_setWidth, g]
  omega
end StrChars
namespace StrChars
open Jvm Sem ClassFile Op Lib Jvm.Stand Jvm.Free.XT Jvm.Free.ALB Jvm.Free.JM Jvm.Free
open Jvm.Lib.Cold (StaticIs)
theorem narrow_ch {c : Int32} (h0 : ¬ c < 0) (h1 : ¬ 65535 < c) : narrow .char (.int c) = .int c := by
  have q : narrow .char (.int (pairCh (lo8 c) (hi8 c))) = .int (pairCh (lo8 c) (hi8 c)) := narrow_c _
  rwa [pair_says h0 h1] at q
/-- the array's cell V codes the n chars f 0 .. f (n - 1) by the coder cd, as the JDK does: coder 1 just where some char is above 255 -/
def Cod (cd : Int32) (n : Nat) (f : Nat → Int32) (V : Cell) : Prop := (cd = 0 ∧ V.slots.size = n ∧ ∀ j, j < n → V.slots[j]? = some (.int (lo8 (f j))) ∧ ¬ 255 < f j) ∨ (cd = 1 ∧ V.slots.size = 2 * n ∧ (∀ j, j < n → V.slots[2 * j]? = some (.int (lo8 (f j))) ∧ V.slots[2 * j + 1]? = some (.int (hi8 (f j)))) ∧ ∃ j, j < n ∧ 255 < f j)
/-- **x is a String of the n chars f 0 .. f (n - 1)**, Latin-1 or UTF-16; its array at t has the cell V -/
def Txt (x t : Addr) (V : Cell) (cd : Int32) (n : Nat) (f : Nat → Int32) (U : State) : Prop := Exact "java/lang/String" x U ∧ Has x "java/lang/String" "value" "[B" (.ref t) U ∧ Has x "java/lang/String" "coder" "B" (.int cd) U ∧ XT.Arr .byte t V U ∧ Cod cd n f V ∧ ∀ j, j < n → ¬ f j < 0 ∧ ¬ 65535 < f j
theorem Txt.mv {x t : Addr} {V : Cell} {cd : Int32} {n : Nat} {f : Nat → Int32} {U U' : State} (h : Txt x t V cd n f U) (hal : U.vm.Alike U'.vm) (hh : U'.heap = U.heap) : Txt x t V cd n f U' := ⟨h.1.mv hal hh, h.2.1.mv hal hh, h.2.2.1.mv hal hh, h.2.2.2.1.mv hal hh, h.2.2.2.2⟩
end StrChars
namespace StrChars.Road
open Jvm Sem ClassFile Op Lib Jvm.Stand Jvm.Free Jvm.Free.XT
open Jvm.Lib.Cold (StaticIs)
theorem consq {a : Array Value} {s : State} {c : Jvm.Cond} {L : List Jvm.Cond} (h0 : c.before a s = true) (h : ∀ w ∈ L, w.before a s = true) : ∀ w ∈ c :: L, w.before a s = true := fun w hw => (List.mem_cons.mp hw).elim (fun e => e ▸ h0) (h w)
/-- the bytes of the chars cs, low before high -/
def wideBytes : List Int32 → List Value
  | [] => []
  | c :: cs => .int (lo8 c) :: .int (hi8 c) :: wideBytes cs
theorem wide_lo (d : Value) : ∀ (cs : List Int32) (j : Nat), j < cs.length → (wideBytes cs).getD (2 * j) d = .int (lo8 (cs.getD j 0))
  | [], j, h => absurd h (Nat.not_lt_zero j)
  | c :: cs, 0, _ => rfl
  | c :: cs, j + 1, h => by
    have q := wide_lo d cs j (by simpa using h)
    rw [show 2 * (j + 1) = 2 * j + 1 + 1 from by omega]
    simpa [wideBytes] using q
theorem wide_hi (d : Value) : ∀ (cs : List Int32) (j : Nat), j < cs.length → (wideBytes cs).getD (2 * j + 1) d = .int (hi8 (cs.getD j 0))
  | [], j, h => absurd h (Nat.not_lt_zero j)
  | c :: cs, 0, _ => rfl
  | c :: cs, j + 1, h => by
    have q := wide_hi d cs j (by simpa using h)
    rw [show 2 * (j + 1) + 1 = 2 * j + 1 + 1 + 1 from by omega]
    simpa [wideBytes] using q
theorem low_at (d : Value) (cs : List Int32) (j : Nat) (h : j < cs.length) : (cs.map fun c => Value.int (lo8 c)).getD j d = .int (lo8 (cs.getD j 0)) := by
  simp [List.getD_eq_getElem?_getD, h]
/-- an array of N2 bytes vs codes the chars cs by the coder cd -/
def CodA (cs : List Int32) (cd N2 : Int32) (vs : List Value) : Prop := (cd = 0 ∧ N2 = Int32.ofNat cs.length ∧ vs = (cs.map fun c => Value.int (lo8 c)) ∧ ∀ c ∈ cs, ¬ 255 < c) ∨ (cd = 1 ∧ N2 = Int32.ofNat (2 * cs.length) ∧ vs = wideBytes cs ∧ ∃ c ∈ cs, 255 < c)
theorem CodA.cod {cs : List Int32} {cd N2 : Int32} {vs : List Value} {V : Cell} (h : CodA cs cd N2 vs) (hn : 2 * cs.length < 2 ^ 31) (hs : V.slots.size = N2.toNatClampNeg) (hv : RoadKit.Has V vs (.int 0)) : Cod cd cs.length (fun j => cs.getD j 0) V := by
  rcases h with ⟨rfl, rfl, rfl, h⟩ | ⟨rfl, rfl, rfl, c, hc, hw⟩
  · rw [n32 (by omega)] at hs
    exact Or.inl ⟨rfl, hs, fun j hj => ⟨by rw [hv j (by omega), low_at _ _ _ hj], by
      have e : cs.getD j 0 = cs[j] := by simp [List.getD_eq_getElem?_getD, hj]
      show ¬ 255 < cs.getD j 0
      rw [e]; exact h _ (List.getElem_mem _)⟩⟩
  · rw [n32 (by omega)] at hs
    obtain ⟨j, hj, rfl⟩ := List.getElem_of_mem hc
    exact Or.inr ⟨rfl, hs, fun j hj => ⟨by rw [hv _ (by omega), wide_lo _ _ _ hj], by rw [hv _ (by omega), wide_hi _ _ _ hj]⟩, j, hj, by
      have e : cs.getD j 0 = cs[j] := by simp [List.getD_eq_getElem?_getD, hj]
      show 255 < cs.getD j 0
      rw [e]; exact hw⟩
/-- an object of exactly java/lang/String, its two fields found: as the laws ask it -/
theorem strObj {Z U : State} {a0 : Array Value} {kI : Nat} (wi : (Jvm.Cond.instantiable ST kI).before a0 Z = true) (al : Z.vm.Alike U.vm) {x : Addr} {v0 c0 : Value} (E : RoadKit.Exa Z U.heap x ST) (V : RoadKit.Fld Z U.heap x ST "value" "[B" v0) (C : RoadKit.Fld Z U.heap x ST "coder" "B" c0) :
    ∃ (D : Cell) (fV fC : Field), Blank ST x D U ∧ Found ST "value" "[B" fV U ∧ Found ST "coder" "B" fC U ∧ D.slots[fV.slot]? = some v0 ∧ D.slots[fC.slot]? = some c0 ∧ RoadKit.slotOf Z ST "value" "[B" = fV.slot ∧ RoadKit.slotOf Z ST "coder" "B" = fC.slot := by
  obtain ⟨D, cfV, kV, iV, fV, hD, gV, stV, knV, obV, asV, slV⟩ := V
  obtain ⟨D', cfC, kC, iC, fC, hD', gC, stC, -, -, asC, slC⟩ := C
  cases hD.symm.trans hD'
  obtain ⟨D2, kD, e1, e2, e3, e4, e5⟩ := E
  cases hD.symm.trans e1
  obtain ⟨c2, k2, i1, i2, i3, -⟩ := Cond.instantiable_spec wi
  cases e2.symm.trans i1
  cases e3.symm.trans i2
  obtain ⟨kU, u1, u2⟩ := al.2.2 _ _ e3
  exact ⟨D, fV, fC, ⟨hD, ⟨knV, fun q hq => by rw [hq] at obV; cases obV⟩, by rw [al.findClass]; exact e2, kU, u1, by rw [u2]; exact i3, by rw [u2]; exact e5 i3⟩, ⟨SBG.found_only al ⟨cfV, kV, iV, gV⟩, stV⟩, ⟨SBG.found_only al ⟨cfC, kC, iC, gC⟩, stC⟩, slV, slC, by simp [RoadKit.slotOf, gV], by simp [RoadKit.slotOf, gC]⟩
theorem sta_is {Z U : State} (al : Z.vm.Alike U.vm) {C n d : String} {v : Value} (S : RoadKit.Sta Z U.heap C n d v) : StaticIs U C n d v := by
  obtain ⟨cfS, iS, kS, fS, st, cS, t1, t2, t3, t4, t5, t6, t7⟩ := S
  exact StaticIs.there (s := { Z with heap := U.heap }) ⟨cfS, iS, kS, fS, st, cS, t1, t2, t3, t4, t5, (fun q => by rw [q] at t6; cases t6), t7⟩ al rfl
end StrChars.Road
namespace StrChars
open Jvm Sem ClassFile Op Lib Jvm.Stand Jvm.Free.XT Jvm.Free.ALB Jvm.Free.JM Jvm.Free
open Jvm.Lib.Cold (StaticIs)
/-- what place i of a byte[]'s cell holds -/
def yv (A : Cell) (i : Nat) : Int32 := match A.slots[i]? with | some (.int x) => x | _ => 0
theorem yv_get {a : Addr} {A : Cell} {U : State} (h : XT.Arr .byte a A U) (ht : Typed .byte A) {i : Nat} (hi : i < A.slots.size) : A.slots[i]? = some (.int (yv A i)) := by
  have e := Array.getElem?_eq_getElem hi
  have f := ht i _ e
  unfold yv; rw [e]
  generalize A.slots[i] = v at f
  cases v <;> simp [fits] at f ⊢
/-- the two arrays are equal, place for place -/
def EqC (A B : Cell) : Prop := A.slots.size = B.slots.size ∧ ∀ i, i < A.slots.size → yv A i = yv B i
/-- a boolean that says whether p -/
def Says01 (q : Prop) (r : Option Value) (s u : State) : Prop := ∃ v : Int32, r = some (.int v) ∧ u.heap = s.heap ∧ ((v = 1 ∧ q) ∨ (v = 0 ∧ ¬ q))
theorem Says01.mv {q : Prop} : ∀ r (U U' V V' : State), U'.heap = U.heap → V.vm.Alike V'.vm → V'.heap = V.heap → Says01 q r U V → Says01 q r U' V' :=
  fun r U U' V V' h1 _ h2 ⟨v, a, b, c⟩ => ⟨v, a, by rw [h1, h2]; exact b, c⟩
namespace LEq
def yN : MethodName := ⟨"java/lang/StringLatin1", "equals", "([B[B)Z"⟩
abbrev yB : ByteArray := jdk_43_method_13_code
theorem d0 : decode yB 0 = .ok (.aload_n 0, 1) := by decide +kernel
theorem d1 : decode yB 1 = .ok (.arraylength, 1) := by decide +kernel
theorem d2 : decode yB 2 = .ok (.aload_n 1, 1) := by decide +kernel
theorem d3 : decode yB 3 = .ok (.arraylength, 1) := by decide +kernel
theorem d4 : decode yB 4 = .ok (.if_icmp (.ne) 30, 3) := by decide +kernel
theorem d7 : decode yB 7 = .ok (.iconst 0, 1) := by decide +kernel
theorem d8 : decode yB 8 = .ok (.istore_n 2, 1) := by decide +kernel
theorem d9 : decode yB 9 = .ok (.iload_n 2, 1) := by decide +kernel
theorem d10 : decode yB 10 = .ok (.aload_n 0, 1) := by decide +kernel
theorem d11 : decode yB 11 = .ok (.arraylength, 1) := by decide +kernel
theorem d12 : decode yB 12 = .ok (.if_icmp (.ge) 20, 3) := by decide +kernel
theorem d15 : decode yB 15 = .ok (.aload_n 0, 1) := by decide +kernel
theorem d16 : decode yB 16 = .ok (.iload_n 2, 1) := by decide +kernel
theorem d17 : decode yB 17 = .ok (.baload, 1) := by decide +kernel
theorem d18 : decode yB 18 = .ok (.aload_n 1, 1) := by decide +kernel
theorem d19 : decode yB 19 = .ok (.iload_n 2, 1) := by decide +kernel
theorem d20 : decode yB 20 = .ok (.baload, 1) := by decide +kernel
theorem d21 : decode yB 21 = .ok (.if_icmp (.eq) 5, 3) := by decide +kernel
theorem d24 : decode yB 24 = .ok (.iconst 0, 1) := by decide +kernel
theorem d25 : decode yB 25 = .ok (.ireturn, 1) := by decide +kernel
theorem d26 : decode yB 26 = .ok (.iinc 2 1, 3) := by decide +kernel
theorem d29 : decode yB 29 = .ok (.goto (-20), 3) := by decide +kernel
theorem d32 : decode yB 32 = .ok (.iconst 1, 1) := by decide +kernel
theorem d33 : decode yB 33 = .ok (.ireturn, 1) := by decide +kernel
theorem d34 : decode yB 34 = .ok (.iconst 0, 1) := by decide +kernel
theorem d35 : decode yB 35 = .ok (.ireturn, 1) := by decide +kernel
def site : List Cond := []
def tab : Cond := tabOf yN yB 3 (some .boolean) site
def P (a : Addr) (A : Cell) (b : Addr) (B : Cell) (args : Array Value) (s : State) : Prop := args = #[.ref a, .ref b] ∧ XT.Arr .byte a A s ∧ Typed .byte A ∧ XT.Arr .byte b B s ∧ Typed .byte B
/-- whether two byte[] are equal, place for place -/
theorem law (l : Launch) (a : Addr) (A : Cell) (b : Addr) (B : Cell) : Law l yN 2 2 0 0 yB 3 (some .boolean) site (P a A b B) (Says01 (EqC A B)) [] 0 0 := by
  refine Law.of_walk (plainFor_of_name (by decide +kernel)) (by decide +kernel) (by decide +kernel) (by decide) (fun _ _ h => by rw [h.1]; rfl) (fun _ U U' hal hh h => ⟨h.1, h.2.1.mv hal hh, h.2.2.1, h.2.2.2.1.mv hal hh, h.2.2.2.2⟩) (fun r U U' V V' h1 hal h2 h => Says01.mv r U U' V V' h1 hal h2 h) ?_
  intro p e s m args below meth c s₁ X0 hexec hbytes hml hret hlk hnm hown hh0 W hP
  obtain ⟨rfl, hA, tA, hB, tB⟩ := hP
  have a31 := hA.2.2.2
  have b31 := hB.2.2.2
  have hA0 := hA.mv X0.warmed.alike hh0
  have hB0 := hB.mv X0.warmed.alike hh0
  have c1 : Steps p.tables e below (s₁.setTop (entryFrame m #[.ref a, .ref b] 3)) (s₁.setTop (mkF m 0 #[.val (.ref a), .val (.ref b), .unset] [])) := entry rfl
  have c2 : Steps p.tables e below (s₁.setTop (entryFrame m #[.ref a, .ref b] 3)) (s₁.setTop (mkF m 4 #[.val (.ref a), .val (.ref b), .unset] [.int (Int32.ofNat B.slots.size), .int (Int32.ofNat A.slots.size)])) := c1.trans (by
    refine XS.aloadN X0.here hexec rfl (hb hbytes d0) rfl rfl ?_
    refine X0.alen hexec hA0 rfl rfl (hb hbytes d1) ?_
    refine XS.aloadN X0.here hexec rfl (hb hbytes d2) rfl rfl ?_
    refine X0.alen hexec hB0 rfl rfl (hb hbytes d3) ?_
    exact Steps.refl _)
  by_cases hs : A.slots.size = B.slots.size
  · have c3 : Steps p.tables e below (s₁.setTop (entryFrame m #[.ref a, .ref b] 3)) (s₁.setTop (mkF m 9 #[.val (.ref a), .val (.ref b), .val (.int 0)] [])) := c2.trans (by
      refine XS.icmpNo X0.here hexec rfl (hb hbytes d4) rfl (ii_ne_f (by rw [hs])) ?_
      refine iconstV X0.here hexec rfl 0 (hb hbytes d7) (by decide) ?_
      refine XS.istoreN X0.here hexec rfl (hb hbytes d8) rfl rfl ?_
      exact Steps.refl _)
    have loop : ∀ (r i : Nat), i + r = A.slots.size → (∀ j, j < i → yv A j = yv B j) → Steps p.tables e below (s₁.setTop (entryFrame m #[.ref a, .ref b] 3)) (s₁.setTop (mkF m 9 #[.val (.ref a), .val (.ref b), .val (.int (Int32.ofNat i))] [])) → ∃ (pc : Nat) (Ls : Array Slot) (v : Int32), (pc = 25 ∨ pc = 33) ∧ ((v = 1 ∧ EqC A B) ∨ (v = 0 ∧ ¬ EqC A B)) ∧ Steps p.tables e below (s₁.setTop (entryFrame m #[.ref a, .ref b] 3)) (s₁.setTop (mkF m pc Ls [.int v])) := by
      intro r
      induction r with
      | zero =>
        intro i hi he cl
        exact ⟨33, _, 1, Or.inr rfl, Or.inl ⟨rfl, hs, fun j hj => he j (by omega)⟩, cl.trans (by
          refine XS.iloadN X0.here hexec rfl (hb hbytes d9) rfl ?_
          refine XS.aloadN X0.here hexec rfl (hb hbytes d10) rfl rfl ?_
          refine X0.alen hexec hA0 rfl rfl (hb hbytes d11) ?_
          refine XS.icmpYes X0.here hexec rfl (pc0 := 12) rfl (hb hbytes d12) rfl (ii_ge_t (nlt32 (by omega) (by omega))) (by decide) rfl ?_
          refine iconstV X0.here hexec rfl 1 (hb hbytes d32) (by decide) ?_
          exact Steps.refl _)⟩
      | succ r ih =>
        intro i hi he cl
        have c4 : Steps p.tables e below (s₁.setTop (entryFrame m #[.ref a, .ref b] 3)) (s₁.setTop (mkF m 21 #[.val (.ref a), .val (.ref b), .val (.int (Int32.ofNat i))] [.int (yv B i), .int (yv A i)])) := cl.trans (by
          refine XS.iloadN X0.here hexec rfl (hb hbytes d9) rfl ?_
          refine XS.aloadN X0.here hexec rfl (hb hbytes d10) rfl rfl ?_
          refine X0.alen hexec hA0 rfl rfl (hb hbytes d11) ?_
          refine XS.icmpNo X0.here hexec rfl (hb hbytes d12) rfl (ii_ge_f (lt32 (by omega) (by omega))) ?_
          refine XS.aloadN X0.here hexec rfl (hb hbytes d15) rfl rfl ?_
          refine XS.iloadN X0.here hexec rfl (hb hbytes d16) rfl ?_
          refine X0.aget hexec hA0 rfl (yv_get hA tA (i := i) (by omega)) rfl rfl (hb hbytes d17) ?_
          refine XS.aloadN X0.here hexec rfl (hb hbytes d18) rfl rfl ?_
          refine XS.iloadN X0.here hexec rfl (hb hbytes d19) rfl ?_
          refine X0.aget hexec hB0 rfl (yv_get hB tB (i := i) (by omega)) rfl rfl (hb hbytes d20) ?_
          exact Steps.refl _)
        by_cases hv : yv A i = yv B i
        · have c5 : Steps p.tables e below (s₁.setTop (entryFrame m #[.ref a, .ref b] 3)) (s₁.setTop (mkF m 9 #[.val (.ref a), .val (.ref b), .val (.int (Int32.ofNat i + 1))] [])) := c4.trans (by
            refine XS.icmpYes X0.here hexec rfl (pc0 := 21) rfl (hb hbytes d21) rfl (ii_eq_t hv) (by decide) rfl ?_
            refine iincV X0.here hexec rfl 1 (hb hbytes d26) (by decide) rfl rfl ?_
            refine XS.goto X0.here hexec rfl (pc0 := 29) rfl (hb hbytes d29) (by decide) rfl ?_
            exact Steps.refl _)
          rw [succ32] at c5
          exact ih (i + 1) (by omega) (fun j hj => by
            by_cases e : j = i
            · rw [e]; exact hv
            · exact he j (by omega)) c5
        · exact ⟨25, _, 0, Or.inl rfl, Or.inr ⟨rfl, fun q => hv (q.2 i (by omega))⟩, c4.trans (by
            refine XS.icmpNo X0.here hexec rfl (hb hbytes d21) rfl (ii_eq_f hv) ?_
            refine iconstV X0.here hexec rfl 0 (hb hbytes d24) (by decide) ?_
            exact Steps.refl _)⟩
    obtain ⟨pc, Ls, v, hpc, hv, cz⟩ := loop A.slots.size 0 (by omega) (fun j hj => absurd hj (Nat.not_lt_zero j)) c3
    have nv : narrow .boolean (.int v) = .int v := by rcases hv with ⟨rfl, -⟩ | ⟨rfl, -⟩ <;> rfl
    rcases hpc with rfl | rfl
    · exact ⟨s₁, some (.int v), _, _, _, X0, rfl, rfl, rfl, (fun h => by cases h), ⟨v, rfl, hh0, hv⟩, fun fs hl => cz.trans (X0.ireturnOut hexec hret nv (Or.inr (Or.inl rfl)) (hb hbytes d25) hl)⟩
    · exact ⟨s₁, some (.int v), _, _, _, X0, rfl, rfl, rfl, (fun h => by cases h), ⟨v, rfl, hh0, hv⟩, fun fs hl => cz.trans (X0.ireturnOut hexec hret nv (Or.inr (Or.inl rfl)) (hb hbytes d33) hl)⟩
  · have c3 : Steps p.tables e below (s₁.setTop (entryFrame m #[.ref a, .ref b] 3)) (s₁.setTop (mkF m 35 #[.val (.ref a), .val (.ref b), .unset] [.int 0])) := c2.trans (by
      refine XS.icmpYes X0.here hexec rfl (pc0 := 4) rfl (hb hbytes d4) rfl (ii_ne_t (ne32 a31 b31 hs)) (by decide) rfl ?_
      refine iconstV X0.here hexec rfl 0 (hb hbytes d34) (by decide) ?_
      exact Steps.refl _)
    exact ⟨s₁, some (.int 0), _, _, _, X0, rfl, rfl, rfl, (fun h => by cases h), ⟨0, rfl, hh0, Or.inr ⟨rfl, fun q => hs q.1⟩⟩, fun fs hl => c3.trans (X0.ireturnOut hexec hret rfl (Or.inr (Or.inl rfl)) (hb hbytes d35) hl)⟩
end LEq
theorem Cod.ty {cd : Int32} {n : Nat} {f : Nat → Int32} {V : Cell} (h : Cod cd n f V) : Typed .byte V := fun i v hv => by
  have hi : i < V.slots.size := (Array.getElem?_eq_some_iff.mp hv).1
  rcases h with ⟨-, k1, k2⟩ | ⟨-, k1, k2, -⟩
  · rw [(k2 i (by omega)).1] at hv; cases hv; exact fits_lo8 _
  · rcases Nat.mod_two_eq_zero_or_one i with e | e
    · obtain ⟨j, rfl⟩ : ∃ j, i = 2 * j := ⟨i / 2, by omega⟩
      rw [(k2 j (by omega)).1] at hv; cases hv; exact fits_lo8 _
    · obtain ⟨j, rfl⟩ : ∃ j, i = 2 * j + 1 := ⟨i / 2, by omega⟩
      rw [(k2 j (by omega)).2] at hv; cases hv; exact fits_lo8 _
/-- the same text -/
def SameT (n : Nat) (f : Nat → Int32) (k : Nat) (g : Nat → Int32) : Prop := n = k ∧ ∀ j, j < n → f j = g j
theorem lo8_inj {x y : Int32} (h0 : ¬ x < 0) (h1 : ¬ 255 < x) (k0 : ¬ y < 0) (k1 : ¬ 255 < y) (h : lo8 x = lo8 y) : x = y := by
  rw [← lo8_mask h0 h1, ← lo8_mask k0 k1, h]
/-- arrays coded by one coder are equal just where the texts are -/
theorem Cod.eqv {cd : Int32} {n k : Nat} {f g : Nat → Int32} {V V' : Cell} (h : Cod cd n f V) (h' : Cod cd k g V') (hf : ∀ j, j < n → ¬ f j < 0 ∧ ¬ 65535 < f j) (hg : ∀ j, j < k → ¬ g j < 0 ∧ ¬ 65535 < g j) : EqC V V' ↔ SameT n f k g := by
  have yvv : ∀ {W : Cell} {i : Nat} {x : Int32}, W.slots[i]? = some (.int x) → yv W i = x := fun q => by unfold yv; rw [q]
  rcases h with ⟨rfl, k1, k2⟩ | ⟨rfl, k1, k2, -⟩
  · rcases h' with ⟨-, m1, m2⟩ | ⟨e, -⟩
    · constructor
      · rintro ⟨e1, e2⟩
        refine ⟨by omega, fun j hj => ?_⟩
        have q := e2 j (by omega)
        rw [yvv (k2 j hj).1, yvv (m2 j (by omega)).1] at q
        exact lo8_inj (hf j hj).1 (k2 j hj).2 (hg j (by omega)).1 (m2 j (by omega)).2 q
      · rintro ⟨rfl, e2⟩
        refine ⟨by omega, fun j hj => ?_⟩
        rw [yvv (k2 j (by omega)).1, yvv (m2 j (by omega)).1, e2 j (by omega)]
    · exact absurd e (by decide)
  · rcases h' with ⟨e, -⟩ | ⟨-, m1, m2, -⟩
    · exact absurd e (by decide)
    · constructor
      · rintro ⟨e1, e2⟩
        refine ⟨by omega, fun j hj => ?_⟩
        have q1 := e2 (2 * j) (by omega)
        have q2 := e2 (2 * j + 1) (by omega)
        rw [yvv (k2 j hj).1, yvv (m2 j (by omega)).1] at q1
        rw [yvv (k2 j hj).2, yvv (m2 j (by omega)).2] at q2
        rw [← pair_says (hf j hj).1 (hf j hj).2, ← pair_says (hg j (by omega)).1 (hg j (by omega)).2, q1, q2]
      · rintro ⟨rfl, e2⟩
        refine ⟨by omega, fun i hi => ?_⟩
        rcases Nat.mod_two_eq_zero_or_one i with e | e
        · obtain ⟨j, rfl⟩ : ∃ j, i = 2 * j := ⟨i / 2, by omega⟩
          rw [yvv (k2 j (by omega)).1, yvv (m2 j (by omega)).1, e2 j (by omega)]
        · obtain ⟨j, rfl⟩ : ∃ j, i = 2 * j + 1 := ⟨i / 2, by omega⟩
          rw [yvv (k2 j (by omega)).2, yvv (m2 j (by omega)).2, e2 j (by omega)]
/-- two codings differ: so do the texts -/
theorem Cod.dif {cd cd' : Int32} {n k : Nat} {f g : Nat → Int32} {V V' : Cell} (h : Cod cd n f V) (h' : Cod cd' k g V') (hne : ¬ cd = cd') : ¬ SameT n f k g := by
  rintro ⟨rfl, e⟩
  rcases h with ⟨rfl, -, k2⟩ | ⟨rfl, -, -, j, hj, hw⟩
  · rcases h' with ⟨rfl, -⟩ | ⟨-, -, -, j, hj, hw⟩
    · exact hne rfl
    · exact (k2 j hj).2 (by rw [e j hj]; exact hw)
  · rcases h' with ⟨-, -, m2⟩ | ⟨rfl, -⟩
    · exact (m2 j hj).2 (by rw [← e j hj]; exact hw)
    · exact hne rfl
/-- an object of exactly C is an instance of C -/
theorem cinst {p : Program} {l : Launch} {e : Env} {R : Room} {s : State} {m : MethodId} {args : Array Value} {below : List Frame} {meth : Method} {c : Code} {T : State} {locs : List Loc} {cells slots : Nat} (X : Stand p l e R s m args below meth c T locs cells slots) (hexec : p.tables.exec = Jvm.exec) {own C : String} {index : Nat} (hown : s.vm.findClass own = some m.cls) (hlink : (Cond.classLink own index C).before args s = true) {a : Addr} (hE : Exact C a T)
    {g : JFrame} (hg : g.method = m) {rest : List Value} (hstack : g.stack = .ref a :: rest) (hdg : decode c.code g.pc = .ok (.instanceof index, 3)) :
    ∃ T', Stand p l e R s m args below meth c T' locs cells slots ∧ T'.heap = T.heap ∧ ∀ target, Steps p.tables e below (T'.setTop { g with pc := g.pc + 3, stack := .int 1 :: rest }) target → Steps p.tables e below (T.setTop g) target := by
  obtain ⟨cB, h1, D, h2, h3, h4⟩ := hE
  have h1' : s.vm.findClass C = some cB := by rw [← X.warmed.alike.findClass]; exact h1
  obtain ⟨vm', X', st⟩ := X.instanceofYes hexec hown hlink h2 h4 h1' (by rw [h3]; exact Jvm.Free.SB.assignable_self _ _) hg hstack hdg
  exact ⟨_, X', rfl, st⟩
theorem cself {p : Program} {l : Launch} {e : Env} {R : Room} {s : State} {m : MethodId} {args : Array Value} {below : List Frame} {meth : Method} {c : Code} {T : State} {locs : List Loc} {cells slots : Nat} (X : Stand p l e R s m args below meth c T locs cells slots) (hexec : p.tables.exec = Jvm.exec) {own C : String} {index : Nat} (hown : s.vm.findClass own = some m.cls) (hlink : (Cond.classLink own index C).before args s = true) {a : Addr} (hE : Exact C a T)
    {g : JFrame} (hg : g.method = m) {rest : List Value} (hstack : g.stack = .ref a :: rest) (hdg : decode c.code g.pc = .ok (.checkcast index, 3)) :
    ∃ T', Stand p l e R s m args below meth c T' locs cells slots ∧ T'.heap = T.heap ∧ ∀ target, Steps p.tables e below (T'.setTop { g with pc := g.pc + 3, stack := .ref a :: rest }) target → Steps p.tables e below (T.setTop g) target := by
  obtain ⟨cB, h1, D, h2, h3, h4⟩ := hE
  have h1' : s.vm.findClass C = some cB := by rw [← X.warmed.alike.findClass]; exact h1
  obtain ⟨vm', X', st⟩ := X.checkcastYes hexec hown hlink h2 h4 h1' (by rw [h3]; exact Jvm.Free.SB.assignable_self _ _) hg hstack hdg
  exact ⟨_, X', rfl, fun t h => st t (by rw [← hstack] at h; exact h)⟩
namespace SEq
def yN : MethodName := ⟨"java/lang/String", "equals", "(Ljava/lang/Object;)Z"⟩
abbrev yB : ByteArray := jdk_42_method_66_code
theorem d0 : decode yB 0 = .ok (.aload_n 0, 1) := by decide +kernel
theorem d1 : decode yB 1 = .ok (.aload_n 1, 1) := by decide +kernel
theorem d2 : decode yB 2 = .ok (.if_acmp (.ne) 5, 3) := by decide +kernel
theorem d5 : decode yB 5 = .ok (.iconst 1, 1) := by decide +kernel
theorem d6 : decode yB 6 = .ok (.ireturn, 1) := by decide +kernel
theorem d7 : decode yB 7 = .ok (.aload_n 1, 1) := by decide +kernel
theorem d8 : decode yB 8 = .ok (.instanceof 10, 3) := by decide +kernel
theorem d11 : decode yB 11 = .ok (.ifCond (.eq) 43, 3) := by decide +kernel
theorem d14 : decode yB 14 = .ok (.aload_n 1, 1) := by decide +kernel
theorem d15 : decode yB 15 = .ok (.checkcast 10, 3) := by decide +kernel
theorem d18 : decode yB 18 = .ok (.astore_n 2, 1) := by decide +kernel
theorem d19 : decode yB 19 = .ok (.getstatic 38, 3) := by decide +kernel
theorem d22 : decode yB 22 = .ok (.ifCond (.eq) 14, 3) := by decide +kernel
theorem d25 : decode yB 25 = .ok (.aload_n 0, 1) := by decide +kernel
theorem d26 : decode yB 26 = .ok (.getfield 15, 3) := by decide +kernel
theorem d29 : decode yB 29 = .ok (.aload_n 2, 1) := by decide +kernel
theorem d30 : decode yB 30 = .ok (.getfield 15, 3) := by decide +kernel
theorem d33 : decode yB 33 = .ok (.if_icmp (.ne) 21, 3) := by decide +kernel
theorem d36 : decode yB 36 = .ok (.aload_n 0, 1) := by decide +kernel
theorem d37 : decode yB 37 = .ok (.getfield 9, 3) := by decide +kernel
theorem d40 : decode yB 40 = .ok (.aload_n 2, 1) := by decide +kernel
theorem d41 : decode yB 41 = .ok (.getfield 9, 3) := by decide +kernel
theorem d44 : decode yB 44 = .ok (.invokestatic 541, 3) := by decide +kernel
theorem d47 : decode yB 47 = .ok (.ifCond (.eq) 7, 3) := by decide +kernel
theorem d50 : decode yB 50 = .ok (.iconst 1, 1) := by decide +kernel
theorem d51 : decode yB 51 = .ok (.goto 4, 3) := by decide +kernel
theorem d54 : decode yB 54 = .ok (.iconst 0, 1) := by decide +kernel
theorem d55 : decode yB 55 = .ok (.ireturn, 1) := by decide +kernel
def site : List Cond := [.classLink "java/lang/String" 10 "java/lang/String", .fieldLink "java/lang/String" 38 "java/lang/String" "COMPACT_STRINGS" "Z", .fieldLink "java/lang/String" 15 "java/lang/String" "coder" "B", .fieldLink "java/lang/String" 9 "java/lang/String" "value" "[B", LEq.tab] ++ staticW "java/lang/String" 541 LEq.yN
def tab : Cond := tabOf yN yB 3 (some .boolean) site
def P (x t : Addr) (V : Cell) (cd : Int32) (n : Nat) (f : Nat → Int32) (y t' : Addr) (V' : Cell) (cd' : Int32) (k : Nat) (g : Nat → Int32) (z : Int32) (args : Array Value) (s : State) : Prop := args = #[.ref x, .ref y] ∧ Txt x t V cd n f s ∧ Txt y t' V' cd' k g s ∧ StaticIs s "java/lang/String" "COMPACT_STRINGS" "Z" (.int z) ∧ ¬ z = 0
/-- equals(Object) of two Strings: whether the texts are the same -/
theorem law (l : Launch) (x t : Addr) (V : Cell) (cd : Int32) (n : Nat) (f : Nat → Int32) (y t' : Addr) (V' : Cell) (cd' : Int32) (k : Nat) (g : Nat → Int32) (z : Int32) : Law l yN 2 1 1 14 yB 3 (some .boolean) site (P x t V cd n f y t' V' cd' k g z) (Says01 (SameT n f k g)) [] 0 0 := by
  refine Law.of_walk (plainFor_of_name (by decide +kernel)) (by decide +kernel) (by decide +kernel) (by decide) (fun _ _ h => by rw [h.1]; rfl) (fun _ U U' hal hh h => ⟨h.1, h.2.1.mv hal hh, h.2.2.1.mv hal hh, h.2.2.2.1.there hal hh, h.2.2.2.2⟩) (fun r U U' V V' h1 hal h2 h => Says01.mv r U U' V V' h1 hal h2 h) ?_
  intro p e s m args below meth c s₁ X0 hexec hbytes hml hret hlk hnm hown hh0 W hP
  obtain ⟨rfl, hx, hy, s1, hz⟩ := hP
  have c1 : Steps p.tables e below (s₁.setTop (entryFrame m #[.ref x, .ref y] 3)) (s₁.setTop (mkF m 2 #[.val (.ref x), .val (.ref y), .unset] [.ref y, .ref x])) := Steps.trans (entry rfl) (by
    show Steps p.tables e below (s₁.setTop (mkF m 0 #[.val (.ref x), .val (.ref y), .unset] [])) _
    refine XS.aloadN X0.here hexec rfl (hb hbytes d0) rfl rfl ?_
    refine XS.aloadN X0.here hexec rfl (hb hbytes d1) rfl rfl ?_
    exact Steps.refl _)
  by_cases hxy : x = y
  · have c2 : Steps p.tables e below (s₁.setTop (entryFrame m #[.ref x, .ref y] 3)) (s₁.setTop (mkF m 6 #[.val (.ref x), .val (.ref y), .unset] [.int 1])) := c1.trans (by
      refine acmpNo X0.here hexec rfl (hb hbytes d2) rfl rfl rfl (by simp [acmp, hxy]) ?_
      refine iconstV X0.here hexec rfl 1 (hb hbytes d5) (by decide) ?_
      exact Steps.refl _)
    subst hxy
    have ec : cd = cd' := by
      obtain ⟨D, fd, a1, a2, a3⟩ := hx.2.2.1
      obtain ⟨D', fd', b1, b2, b3⟩ := hy.2.2.1
      cases a1.symm.trans b1
      obtain ⟨q1, q2, q3, q4⟩ := a2.1
      obtain ⟨r1, r2, r3, r4⟩ := b2.1
      cases q4.symm.trans r4
      cases a3.symm.trans b3; rfl
    have et : t = t' := by
      obtain ⟨D, fd, a1, a2, a3⟩ := hx.2.1
      obtain ⟨D', fd', b1, b2, b3⟩ := hy.2.1
      cases a1.symm.trans b1
      obtain ⟨q1, q2, q3, q4⟩ := a2.1
      obtain ⟨r1, r2, r3, r4⟩ := b2.1
      cases q4.symm.trans r4
      cases a3.symm.trans b3; rfl
    subst ec et
    have ev : V = V' := by cases hx.2.2.2.1.1.symm.trans hy.2.2.2.1.1; rfl
    subst ev
    have hs : SameT n f k g := (Cod.eqv hx.2.2.2.2.1 hy.2.2.2.2.1 hx.2.2.2.2.2 hy.2.2.2.2.2).mp ⟨rfl, fun _ _ => rfl⟩
    exact ⟨s₁, some (.int 1), _, _, _, X0, rfl, rfl, rfl, (fun h => by cases h), ⟨1, rfl, hh0, Or.inl ⟨rfl, hs⟩⟩, fun fs hl => c2.trans (X0.ireturnOut hexec hret rfl (Or.inr (Or.inl rfl)) (hb hbytes d6) hl)⟩
  · have c2 : Steps p.tables e below (s₁.setTop (entryFrame m #[.ref x, .ref y] 3)) (s₁.setTop (mkF m 8 #[.val (.ref x), .val (.ref y), .unset] [.ref y])) := c1.trans (by
      refine acmpYes X0.here hexec rfl (pc0 := 2) rfl (hb hbytes d2) rfl rfl rfl (by simp [acmp, hxy]) (by decide) rfl ?_
      refine XS.aloadN X0.here hexec rfl (hb hbytes d7) rfl rfl ?_
      exact Steps.refl _)
    obtain ⟨T3, X3, q3, st3⟩ := cinst X0 hexec hown (wk W (.classLink "java/lang/String" 10 "java/lang/String")) (hy.mv X0.warmed.alike hh0).1 (g := (mkF m 8 #[.val (.ref x), .val (.ref y), .unset] [.ref y])) rfl (rest := []) rfl (hb hbytes d8)
    have hh3 := q3.trans hh0
    have c4 : Steps p.tables e below (s₁.setTop (entryFrame m #[.ref x, .ref y] 3)) (T3.setTop (mkF m 15 #[.val (.ref x), .val (.ref y), .unset] [.ref y])) := (c2.trans (st3 _ (Steps.refl _))).trans (by
      refine XS.ifNo X3.here hexec rfl (hb hbytes d11) rfl (i0_eq_f (by decide)) ?_
      refine XS.aloadN X3.here hexec rfl (hb hbytes d14) rfl rfl ?_
      exact Steps.refl _)
    obtain ⟨T5, X5, q5, st5⟩ := cself X3 hexec hown (wk W (.classLink "java/lang/String" 10 "java/lang/String")) (hy.mv X3.warmed.alike hh3).1 (g := (mkF m 15 #[.val (.ref x), .val (.ref y), .unset] [.ref y])) rfl (rest := []) rfl (hb hbytes d15)
    have hh5 := q5.trans hh3
    have c6 : Steps p.tables e below (s₁.setTop (entryFrame m #[.ref x, .ref y] 3)) (T5.setTop (mkF m 19 #[.val (.ref x), .val (.ref y), .val (.ref y)] [])) := (c4.trans (st5 _ (Steps.refl _))).trans (by
      refine XS.astoreN X5.here hexec rfl (hb hbytes d18) rfl rfl rfl ?_
      exact Steps.refl _)
    obtain ⟨T7, X7, q7, st7⟩ := X5.sget hexec hown (wk W (.fieldLink "java/lang/String" 38 "java/lang/String" "COMPACT_STRINGS" "Z")) s1 (fun _ _ h => by rw [hh5]; exact h) (g := (mkF m 19 #[.val (.ref x), .val (.ref y), .val (.ref y)] [])) rfl (hb hbytes d19)
    have hh7 := q7.trans hh5
    have c8 : Steps p.tables e below (s₁.setTop (entryFrame m #[.ref x, .ref y] 3)) (T7.setTop (mkF m 26 #[.val (.ref x), .val (.ref y), .val (.ref y)] [.ref x])) := (c6.trans (st7 _ (Steps.refl _))).trans (by
      refine XS.ifNo X7.here hexec rfl (hb hbytes d22) rfl (i0_eq_f hz) ?_
      refine XS.aloadN X7.here hexec rfl (hb hbytes d25) rfl rfl ?_
      exact Steps.refl _)
    obtain ⟨T9, X9, q9, st9⟩ := X7.hget hexec hown (wk W (.fieldLink "java/lang/String" 15 "java/lang/String" "coder" "B")) (hx.mv X7.warmed.alike hh7).2.2.1 (g := (mkF m 26 #[.val (.ref x), .val (.ref y), .val (.ref y)] [.ref x])) rfl (rest := []) rfl (hb hbytes d26)
    have hh9 := q9.trans hh7
    have c10 : Steps p.tables e below (s₁.setTop (entryFrame m #[.ref x, .ref y] 3)) (T9.setTop (mkF m 30 #[.val (.ref x), .val (.ref y), .val (.ref y)] [.ref y, .int cd])) := (c8.trans (st9 _ (Steps.refl _))).trans (by
      refine XS.aloadN X9.here hexec rfl (hb hbytes d29) rfl rfl ?_
      exact Steps.refl _)
    obtain ⟨T11, X11, q11, st11⟩ := X9.hget hexec hown (wk W (.fieldLink "java/lang/String" 15 "java/lang/String" "coder" "B")) (hy.mv X9.warmed.alike hh9).2.2.1 (g := (mkF m 30 #[.val (.ref x), .val (.ref y), .val (.ref y)] [.ref y, .int cd])) rfl (rest := [.int cd]) rfl (hb hbytes d30)
    have hh11 := q11.trans hh9
    have c12 : Steps p.tables e below (s₁.setTop (entryFrame m #[.ref x, .ref y] 3)) (T11.setTop (mkF m 33 #[.val (.ref x), .val (.ref y), .val (.ref y)] [.int cd', .int cd])) := c10.trans (st11 _ (Steps.refl _))
    by_cases hcd : cd = cd'
    · subst hcd
      have c13 : Steps p.tables e below (s₁.setTop (entryFrame m #[.ref x, .ref y] 3)) (T11.setTop (mkF m 37 #[.val (.ref x), .val (.ref y), .val (.ref y)] [.ref x])) := c12.trans (by
        refine XS.icmpNo X11.here hexec rfl (hb hbytes d33) rfl (ii_ne_f rfl) ?_
        refine XS.aloadN X11.here hexec rfl (hb hbytes d36) rfl rfl ?_
        exact Steps.refl _)
      obtain ⟨T14, X14, q14, st14⟩ := X11.hget hexec hown (wk W (.fieldLink "java/lang/String" 9 "java/lang/String" "value" "[B")) (hx.mv X11.warmed.alike hh11).2.1 (g := (mkF m 37 #[.val (.ref x), .val (.ref y), .val (.ref y)] [.ref x])) rfl (rest := []) rfl (hb hbytes d37)
      have hh14 := q14.trans hh11
      have c15 : Steps p.tables e below (s₁.setTop (entryFrame m #[.ref x, .ref y] 3)) (T14.setTop (mkF m 41 #[.val (.ref x), .val (.ref y), .val (.ref y)] [.ref y, .ref t])) := (c13.trans (st14 _ (Steps.refl _))).trans (by
        refine XS.aloadN X14.here hexec rfl (hb hbytes d40) rfl rfl ?_
        exact Steps.refl _)
      obtain ⟨T16, X16, q16, st16⟩ := X14.hget hexec hown (wk W (.fieldLink "java/lang/String" 9 "java/lang/String" "value" "[B")) (hy.mv X14.warmed.alike hh14).2.1 (g := (mkF m 41 #[.val (.ref x), .val (.ref y), .val (.ref y)] [.ref y, .ref t])) rfl (rest := [.ref t]) rfl (hb hbytes d41)
      have hh16 := q16.trans hh14
      have c17 : Steps p.tables e below (s₁.setTop (entryFrame m #[.ref x, .ref y] 3)) (T16.setTop (mkF m 44 #[.val (.ref x), .val (.ref y), .val (.ref y)] [.ref t', .ref t])) := c15.trans (st16 _ (Steps.refl _))
      obtain ⟨v18, T18, X18, E18, g18⟩ := X16.callS hexec (LEq.law l t V t' V') hown (wks W (staticW "java/lang/String" 541 LEq.yN)) (wk W LEq.tab) (W := 0) (Nat.le_of_ble_eq_true rfl) (Nat.le_of_ble_eq_true rfl) (Nat.le_refl _) (Nat.le_refl _) (g := (mkF m 44 #[.val (.ref x), .val (.ref y), .val (.ref y)] [.ref t', .ref t])) rfl (by rw [hml]; rfl) c17 (argsL := [.ref t, .ref t']) (rest := []) rfl rfl (by show 2 * 0 + 0 ≤ _; decide) (hb hbytes d44) (⟨rfl, hx.2.2.2.1.mv X16.warmed.alike hh16, hx.2.2.2.2.1.ty, hy.2.2.2.1.mv X16.warmed.alike hh16, hy.2.2.2.2.1.ty⟩)
      obtain ⟨v, rfl, q18, hv⟩ := E18
      have iff := Cod.eqv hx.2.2.2.2.1 hy.2.2.2.2.1 hx.2.2.2.2.2 hy.2.2.2.2.2
      rcases hv with ⟨rfl, he⟩ | ⟨rfl, he⟩
      · have c19 : Steps p.tables e below (s₁.setTop (entryFrame m #[.ref x, .ref y] 3)) (T18.setTop (mkF m 55 #[.val (.ref x), .val (.ref y), .val (.ref y)] [.int 1])) := Steps.trans g18 (by
          refine XS.ifNo X18.here hexec rfl (hb hbytes d47) rfl (i0_eq_f (by decide)) ?_
          refine iconstV X18.here hexec rfl 1 (hb hbytes d50) (by decide) ?_
          refine XS.goto X18.here hexec rfl (pc0 := 51) rfl (hb hbytes d51) (by decide) rfl ?_
          exact Steps.refl _)
        exact ⟨T18, some (.int 1), _, _, _, X18, rfl, rfl, rfl, (fun h => by cases h), ⟨1, rfl, q18.trans hh16, Or.inl ⟨rfl, iff.mp he⟩⟩, fun fs hl => c19.trans (X18.ireturnOut hexec hret rfl (Or.inr (Or.inl rfl)) (hb hbytes d55) hl)⟩
      · have c19 : Steps p.tables e below (s₁.setTop (entryFrame m #[.ref x, .ref y] 3)) (T18.setTop (mkF m 55 #[.val (.ref x), .val (.ref y), .val (.ref y)] [.int 0])) := Steps.trans g18 (by
          refine XS.ifYes X18.here hexec rfl (pc0 := 47) rfl (hb hbytes d47) rfl (i0_eq_t rfl) (by decide) rfl ?_
          refine iconstV X18.here hexec rfl 0 (hb hbytes d54) (by decide) ?_
          exact Steps.refl _)
        exact ⟨T18, some (.int 0), _, _, _, X18, rfl, rfl, rfl, (fun h => by cases h), ⟨0, rfl, q18.trans hh16, Or.inr ⟨rfl, fun q => he (iff.mpr q)⟩⟩, fun fs hl => c19.trans (X18.ireturnOut hexec hret rfl (Or.inr (Or.inl rfl)) (hb hbytes d55) hl)⟩
    · have c13 : Steps p.tables e below (s₁.setTop (entryFrame m #[.ref x, .ref y] 3)) (T11.setTop (mkF m 55 #[.val (.ref x), .val (.ref y), .val (.ref y)] [.int 0])) := c12.trans (by
        refine XS.icmpYes X11.here hexec rfl (pc0 := 33) rfl (hb hbytes d33) rfl (ii_ne_t hcd) (by decide) rfl ?_
        refine iconstV X11.here hexec rfl 0 (hb hbytes d54) (by decide) ?_
        exact Steps.refl _)
      exact ⟨T11, some (.int 0), _, _, _, X11, rfl, rfl, rfl, (fun h => by cases h), ⟨0, rfl, hh11, Or.inr ⟨rfl, Cod.dif hx.2.2.2.2.1 hy.2.2.2.2.1 hcd⟩⟩, fun fs hl => c13.trans (X11.ireturnOut hexec hret rfl (Or.inr (Or.inl rfl)) (hb hbytes d55) hl)⟩
theorem pays {l : Launch} {R : Room} {p : Program} {e : Env} {below : List Frame} {s : State} {sargs : Array Value} {len W : Nat} (x t : Addr) (V : Cell) (cd : Int32) (n : Nat) (f : Nat → Int32) (y t' : Addr) (V' : Cell) (cd' : Int32) (k : Nat) (g : Nat → Int32) (z : Int32) (htab : tab.before sargs s = true) (hfr : 2 ≤ R.frames) (hlo : W + 28 ≤ R.locals) :
    Back l R p e below s sargs yN len W (fun A₁ a₁ => A₁.cells + 0 ≤ R.cells ∧ A₁.slots + 0 ≤ R.slots ∧ P x t V cd n f y t' V' cd' k g z a₁ A₁.U) (fun A₁ _ v₁ B₁ => Says01 (SameT n f k g) v₁ A₁.U B₁.U ∧ B₁.locs = A₁.locs ++ [] ∧ B₁.cells = A₁.cells + 0 ∧ B₁.slots = A₁.slots + 0) :=
  (law l x t V cd n f y t' V' cd' k g z).pays htab hfr (by omega)
end SEq
end StrChars
namespace StrChars.Road
open Jvm Sem ClassFile Op Lib Jvm.Stand Jvm.Free Jvm.Free.XT
open Jvm.Lib.Cold (StaticIs)
/-- the words of String.equals(Object) -/
abbrev wordsEq : List Jvm.Cond := [.code SEq.yN SEq.yB 3 (some .boolean), .initialized ST, .classLink ST 10 ST, .fieldLink ST 38 ST "COMPACT_STRINGS" "Z", .fieldLink ST 15 ST "coder" "B", .fieldLink ST 9 ST "value" "[B", .methodLink ST 541 LEq.yN, .static LEq.yN, .code LEq.yN LEq.yB 3 (some .boolean), .initialized "java/lang/StringLatin1"]
theorem tabEq_of {a : Array Value} {s : State} (h : ∀ w ∈ wordsEq, w.before a s = true) : SEq.tab.before a s = true := by
  have hl : LEq.tab.before a s = true := unparts (wk h (.code LEq.yN LEq.yB 3 (some .boolean))) (wks h (.initialized LEq.yN.cls :: LEq.site))
  have q := consq hl h
  exact unparts (wk q (.code SEq.yN SEq.yB 3 (some .boolean))) (wks q (.initialized SEq.yN.cls :: SEq.site))
theorem movedEq {Z s : State} {a0 args : Array Value} (hZ : Z.Warmed39 s.vm) (hw : ∀ d ∈ wordsEq, d.before a0 Z = true) : ∀ d ∈ wordsEq, d.before args s = true := fun d hd => by
  have t : ∀ d ∈ wordsEq, (d.onTables && d.keepsFace) = true := by decide +kernel
  exact RoadKit.mv hZ (hw d hd) (t d hd)
/-- the road's facts of a String, as the laws ask it -/
theorem txt_of {Z U : State} {a0 : Array Value} {kI : Nat} (wi : (Jvm.Cond.instantiable ST kI).before a0 Z = true) (al : Z.vm.Alike U.vm) {x t : Addr} {kb : ClassId} {cs : List Int32} {cd N2 : Int32} {vs : List Value} (E : RoadKit.Exa Z U.heap x ST) (V : RoadKit.Fld Z U.heap x ST "value" "[B" (.ref t)) (C : RoadKit.Fld Z U.heap x ST "coder" "B" (.int cd)) (K : RoadKit.Arv Z U.heap t kb .byte N2 vs (.int 0)) (hc : CodA cs cd N2 vs) (hb : ∀ c ∈ cs, ¬ c < 0 ∧ ¬ (65535 : Int32) < c) (l2 : cs.length ≤ 4000) :
    ∃ A, Txt x t A cd cs.length (fun j => cs.getD j 0) U := by
  obtain ⟨A, K1, K2, K3, K4, K5, K6⟩ := K
  have hcod := hc.cod (by omega) K3 K5
  obtain ⟨D, fV, fC, hB, F1, F2, g1, g2, -, -⟩ := strObj wi al E V C
  exact ⟨A, ⟨_, hB.2.2.1, D, hB.1, rfl, by cases q : D.vm <;> first | rfl | exact absurd q (hB.2.1.2 _)⟩, Has.of hB F1 g1, Has.of hB F2 g2, ⟨K1.1, State.isArrayOf_alike al K1.2.1, K1.2.2, by rcases hcod with ⟨-, q, -⟩ | ⟨-, q, -⟩ <;> omega⟩, hcod, fun j hj => by
    have e : cs.getD j 0 = cs[j] := by simp [List.getD_eq_getElem?_getD, hj]
    show ¬ cs.getD j 0 < 0 ∧ ¬ 65535 < cs.getD j 0
    rw [e]; exact hb _ (List.getElem_mem _)⟩
theorem same_list (cs ds : List Int32) : SameT cs.length (fun j => cs.getD j 0) ds.length (fun j => ds.getD j 0) ↔ cs = ds := by
  constructor
  · rintro ⟨e, q⟩
    refine List.ext_getElem e fun j h1 h2 => ?_
    have := q j h1
    simpa [List.getD_eq_getElem?_getD, h1, h2] using this
  · rintro rfl
    exact ⟨rfl, fun _ _ => rfl⟩
/-- **equals(Object) OF TWO SUCH STRINGS**: 1 just where the chars are the same -/
theorem eqW {p : Program} {l : Launch} {e : Env} {R : Room} {s : State} {args : Array Value} {below : List Frame} {len W : Nat} {Z : State} {a0 : Array Value} {h : Heap} (hZ : Z.Warmed39 s.vm) (hw : ∀ d ∈ wordsEq, d.before a0 Z = true) {kI : Nat} (wi : (Jvm.Cond.instantiable ST kI).before a0 Z = true)
    {x t : Addr} {kb : ClassId} {cs : List Int32} {cd N2 : Int32} {vs : List Value} (E : RoadKit.Exa Z h x ST) (V : RoadKit.Fld Z h x ST "value" "[B" (.ref t)) (C : RoadKit.Fld Z h x ST "coder" "B" (.int cd)) (K : RoadKit.Arv Z h t kb .byte N2 vs (.int 0)) (hc : CodA cs cd N2 vs) (hb : ∀ c ∈ cs, ¬ c < 0 ∧ ¬ (65535 : Int32) < c) (l2 : cs.length ≤ 4000)
    {y t' : Addr} {kb' : ClassId} {ds : List Int32} {cd' N2' : Int32} {vs' : List Value} (E' : RoadKit.Exa Z h y ST) (V' : RoadKit.Fld Z h y ST "value" "[B" (.ref t')) (C' : RoadKit.Fld Z h y ST "coder" "B" (.int cd')) (K' : RoadKit.Arv Z h t' kb' .byte N2' vs' (.int 0)) (hc' : CodA ds cd' N2' vs') (hb' : ∀ c ∈ ds, ¬ c < 0 ∧ ¬ (65535 : Int32) < c) (l2' : ds.length ≤ 4000)
    {z : Int32} (S : RoadKit.Sta Z h ST "COMPACT_STRINGS" "Z" (.int z)) (hz : ¬ z = 0) (hfr : 2 ≤ R.frames) (hlo : W + 28 ≤ R.locals) :
    Back l R p e below s args (⟨"java/lang/String", "equals", "(Ljava/lang/Object;)Z"⟩ : MethodName) len W (fun P a => a = #[.ref x, .ref y] ∧ P.U.heap = h ∧ P.cells + 0 ≤ R.cells ∧ P.slots + 0 ≤ R.slots)
      (fun P _ v B => ∃ L, (((v = some (.int 1) ∧ cs = ds) ∨ (v = some (.int 0) ∧ ¬ cs = ds)) ∧ L = [] ∧ B.U.heap = h) ∧ B.locs = P.locs ++ L ∧ B.cells = P.cells + 0 ∧ B.slots = P.slots + 0) := by
  intro m meth c P g ig mk a X hg hsize hdg hW hn hp'
  obtain ⟨rfl, rfl, r1, r2⟩ := hp'
  have al : Z.vm.Alike P.U.vm := hZ.alike.trans X.warmed.alike
  obtain ⟨A, hx⟩ := txt_of wi al E V C K hc hb l2
  obtain ⟨A', hy⟩ := txt_of wi al E' V' C' K' hc' hb' l2'
  obtain ⟨v, B, X', ⟨⟨w, hv, hh, hq⟩, hl, hk, hs⟩, st⟩ := SEq.pays x t A cd cs.length (fun j => cs.getD j 0) y t' A' cd' ds.length (fun j => ds.getD j 0) z (tabEq_of (movedEq hZ hw)) hfr hlo m meth c P g ig mk _ X hg hsize hdg hW hn ⟨r1, r2, rfl, hx, hy, sta_is al S, hz⟩
  refine ⟨v, B, X', ⟨[], ⟨?_, rfl, hh⟩, hl, hk, hs⟩, st⟩
  rcases hq with ⟨rfl, q⟩ | ⟨rfl, q⟩
  · exact Or.inl ⟨hv, (same_list cs ds).mp q⟩
  · exact Or.inr ⟨hv, fun e => q ((same_list cs ds).mpr e)⟩
end StrChars.Road
namespace StrChars.Road
open Jvm Sem ClassFile Op Lib Jvm.Stand Jvm.Free Jvm.Free.XT
open Jvm.Lib.Cold (StaticIs)
/-- what backV says of its String, as the contracts of this text ask it: cs's low bytes, coder 0 -/
theorem codOf {cs : List Int32} {n : Nat} (hn : cs.length = n) (hb : ∀ c ∈ cs, ¬ 255 < c) : CodA cs 0 (Int32.ofNat n) ((cs.map lo8).map Value.int) := Or.inl ⟨rfl, by rw [hn], by simp [List.map_map, Function.comp_def], hb⟩
end StrChars.Road
end Jvm.Pilot.@@N@@
namespace Jvm.Pilot.@@N@@
open Jvm Jvm.ClassFile Sem Op Lib Jvm.Free Jvm.Stand Jvm.LawKit Jvm.RoadKit Bundle Jvm.Pilot.@@N@@.Jvm.D
theorem tw {a0 : Array Value} {Z : State} (hw : ∀ d ∈ tables_1, d.before a0 Z = true) (i : Nat) {d : Jvm.Cond} (h : tables_1[i]? = some d) : d.before a0 Z = true := hw d (List.mem_of_getElem? h)
theorem own_nat {j : Nat} (h : j < 2 ^ 31) : (Int32.ofNat j).toNatClampNeg = j := by
  have e : (Int32.ofNat j).toInt = (j : Int) := Int32.toInt_ofNat_of_lt h
  simp only [Int32.toNatClampNeg, e]; omega
theorem own_toInt {j : Nat} (h : j < 2 ^ 31) : (Int32.ofNat j).toInt = (j : Int) := Int32.toInt_ofNat_of_lt h
theorem own_nn {j : Nat} (h : j < 2 ^ 31) : ¬ Int32.ofNat j < 0 := fun q => by
  rw [Int32.lt_iff_toInt_lt, own_toInt h] at q
  have : (0 : Int32).toInt = 0 := by decide
  omega
theorem own_lt {i j : Nat} (hi : i < 2 ^ 31) (hj : j < 2 ^ 31) : Int32.ofNat i < Int32.ofNat j ↔ i < j := by
  rw [Int32.lt_iff_toInt_lt, own_toInt hi, own_toInt hj]; omega
theorem own_eqn {i j : Nat} (hi : i < 2 ^ 31) (hj : j < 2 ^ 31) : Int32.ofNat i = Int32.ofNat j ↔ i = j := by
  rw [← Int32.toInt_inj, own_toInt hi, own_toInt hj]; omega
theorem own_succ (j : Nat) : Int32.ofNat j + (1 : Int32) = Int32.ofNat (j + 1) := (Int32.ofNat_add j 1).symm
theorem own_getD {cs : List Int32} {j : Nat} (d : Value) (h : j < cs.length) (h2 : j < 2 ^ 31) : (cs.map Value.int).getD (Int32.ofNat j).toNatClampNeg d = .int (cs.getD j 0) := by
  rw [own_nat h2]
  simp [List.getD_eq_getElem?_getD, List.getElem?_map, List.getElem?_eq_getElem h]
theorem own_shl1 {j : Nat} (h : j < 2 ^ 30) : (Int32.ofNat j <<< ((1 : Int32) &&& 31)) = Int32.ofNat (2 * j) := by
  rw [← Int32.toInt_inj, Jvm.Kit.i32_shl (Int32.ofNat j) _ (k := 1) (by decide) (by rw [own_toInt (by omega)]; omega) (by rw [own_toInt (by omega)]; omega), own_toInt (by omega), own_toInt (by omega)]
  omega
theorem own_shr1 {j : Nat} (h : 2 * j < 2 ^ 31) : (Int32.ofNat (2 * j) >>> ((1 : Int32) &&& 31)) = Int32.ofNat j := by
  rw [← Int32.toInt_inj, Jvm.Kit.i32_shr (Int32.ofNat (2 * j)) _ (k := 1) (by decide), own_toInt h, own_toInt (by omega)]
  omega
theorem own_shr0 (c : Int32) : c >>> ((0 : Int32) &&& 31) = c := by
  rw [← Int32.toInt_inj, Jvm.Kit.i32_shr c _ (k := 0) (by decide)]
  omega
theorem own_i8 (x : Int32) : (x.toInt8.toInt32).toInt8.toInt32 = x.toInt8.toInt32 := by rw [Int8.toInt8_toInt32]
/-- the bytes of a text: the latin ones, with zeros behind -/
def latL (cs : List Int32) (j : Nat) : List Value := (cs.take j).map (fun c => Value.int (c.toInt8.toInt32)) ++ List.replicate (cs.length - j) (.int (0 : Int32))
theorem latL_zero (cs : List Int32) : latL cs 0 = List.replicate cs.length (.int (0 : Int32)) := by simp [latL]
theorem latL_full (cs : List Int32) : latL cs cs.length = cs.map (fun c => Value.int (c.toInt8.toInt32)) := by simp [latL]
theorem latL_len (cs : List Int32) {j : Nat} (h : j ≤ cs.length) : (latL cs j).length = cs.length := by simp [latL]; omega
theorem own_take_succ (cs : List Int32) {j : Nat} (h : j < cs.length) : cs.take (j + 1) = cs.take j ++ [cs.getD j 0] := by
  rw [List.take_add_one, List.getElem?_eq_getElem h, List.getD_eq_getElem?_getD, List.getElem?_eq_getElem h]; rfl
theorem latL_set (cs : List Int32) {j : Nat} (h : j < cs.length) : (latL cs j).set j (.int ((cs.getD j 0).toInt8.toInt32)) = latL cs (j + 1) := by
  unfold latL
  rw [own_take_succ cs h, List.map_append]
  obtain ⟨k, hk⟩ : ∃ k, cs.length - j = k + 1 := ⟨cs.length - j - 1, by omega⟩
  have hk2 : cs.length - (j + 1) = k := by omega
  have hl : ((cs.take j).map (fun c => Value.int (c.toInt8.toInt32))).length = j := by simp; omega
  rw [hk, hk2, List.replicate_succ, List.set_append_right _ _ (by omega), hl, Nat.sub_self]
  simp
/-- .. and as pairs of bytes -/
def u16 (cs : List Int32) : List Value := cs.flatMap (fun c => [.int (c.toInt8.toInt32), .int ((c >>> ((8 : Int32) &&& 31)).toInt8.toInt32)])
theorem u16_len (cs : List Int32) : (u16 cs).length = 2 * cs.length := by
  induction cs with
  | nil => rfl
  | cons a t ih => simp only [u16, List.flatMap_cons, List.length_append, List.length_cons, List.length_nil] at ih ⊢; omega
def u16L (cs : List Int32) (j : Nat) : List Value := u16 (cs.take j) ++ List.replicate (2 * (cs.length - j)) (.int (0 : Int32))
theorem u16L_zero (cs : List Int32) : u16L cs 0 = List.replicate (2 * cs.length) (.int (0 : Int32)) := by simp [u16L, u16]
theorem u16L_full (cs : List Int32) : u16L cs cs.length = u16 cs := by simp [u16L]
theorem u16L_len (cs : List Int32) {j : Nat} (h : j ≤ cs.length) : (u16L cs j).length = 2 * cs.length := by
  simp only [u16L, List.length_append, u16_len, List.length_take, List.length_replicate]; omega
theorem u16_app (a b : List Int32) : u16 (a ++ b) = u16 a ++ u16 b := by simp [u16]
theorem u16L_set (cs : List Int32) {j : Nat} (h : j < cs.length) : ((u16L cs j).set (2 * j) (.int ((cs.getD j 0).toInt8.toInt32))).set (2 * j + 1) (.int (((cs.getD j 0) >>> ((8 : Int32) &&& 31)).toInt8.toInt32)) = u16L cs (j + 1) := by
  unfold u16L
  rw [own_take_succ cs h, u16_app]
  obtain ⟨k, hk⟩ : ∃ k, cs.length - j = k + 1 := ⟨cs.length - j - 1, by omega⟩
  have hk2 : cs.length - (j + 1) = k := by omega
  have hl : (u16 (cs.take j)).length = 2 * j := by rw [u16_len]; simp; omega
  have e2 : 2 * (k + 1) = (2 * k + 1) + 1 := by omega
  rw [hk, hk2, e2, List.replicate_succ, List.replicate_succ, List.set_append_right _ _ (by omega), hl, Nat.sub_self, List.set_cons_zero, List.set_append_right _ _ (by omega), hl]
  have e3 : 2 * j + 1 - 2 * j = 1 := by omega
  rw [e3]
  simp [u16]
theorem u16_get (cs : List Int32) {j : Nat} (h : j < cs.length) : (u16 cs).getD (2 * j) (.int 0) = .int ((cs.getD j 0).toInt8.toInt32) ∧ (u16 cs).getD (2 * j + 1) (.int 0) = .int (((cs.getD j 0) >>> ((8 : Int32) &&& 31)).toInt8.toInt32) := by
  have e : cs = cs.take j ++ (cs.getD j 0 :: cs.drop (j + 1)) := by
    have h1 := List.take_append_drop j cs
    rw [List.drop_eq_getElem_cons h] at h1
    rw [List.getD_eq_getElem?_getD, List.getElem?_eq_getElem h]
    exact h1.symm
  have hl : (u16 (cs.take j)).length = 2 * j := by rw [u16_len]; simp; omega
  have e1 : u16 cs = u16 (cs.take j) ++ ([.int ((cs.getD j 0).toInt8.toInt32), .int (((cs.getD j 0) >>> ((8 : Int32) &&& 31)).toInt8.toInt32)] ++ u16 (cs.drop (j + 1))) := by
    rw [← List.append_assoc]
    conv => lhs; rw [e]
    rw [u16_app]
    simp only [u16, List.flatMap_cons, List.append_assoc]
  rw [e1]
  simp only [List.getD_eq_getElem?_getD]
  have e3 : 2 * j + 1 - 2 * j = 1 := by omega
  refine ⟨?_, ?_⟩
  · rw [List.getElem?_append_right (by omega), hl, Nat.sub_self]; rfl
  · rw [List.getElem?_append_right (by omega), hl, e3]; rfl
theorem own_decl {a0 : Array Value} {Z : State} {y : MethodName} {bytes : ByteArray} {ml : Nat} {ret : Option FieldType} (wi : (Cond.instanceMethod y).before a0 Z = true) (wc : (Cond.code y bytes ml ret).before a0 Z = true) : (Cond.declares y).before a0 Z = true := by
  obtain ⟨mk, methM, hn, hm, hs, -⟩ := Cond.instanceMethod_spec wi
  obtain ⟨m2, c2, q1, -, -, -, -, -, -, hsig⟩ := Cond.code_spec hn wc
  cases hm.symm.trans q1
  simp [Cond.before, Cond.holds, Cond.value, hn, hm, hs, hsig]
theorem own_nface {a0 : Array Value} {Z : State} {K : String} {x z y : MethodName} (ws : (Cond.selects K x z).before a0 Z = true) (hc : z.cls = y.cls) : NotFace Z y := fun r0 h0 => by
  obtain ⟨c2, r2, m2, q1, q2, q3, q4, kP, hkP, hkPi⟩ := Cond.selects_spec ws
  have e1 := findClass_of_methodNamed q3
  have e2 := findClass_of_methodNamed h0
  rw [hc, e2] at e1
  have e3 := Option.some.inj e1
  exact ⟨kP, by rw [e3]; exact hkP, hkPi⟩
theorem own_same {a0 : Array Value} {Z : State} {y : MethodName} (wi : (Cond.instanceMethod y).before a0 Z = true) (N : NotFace Z y) (hy : y.cls ≠ "java/lang/invoke/MethodHandle" ∧ y.cls ≠ "java/lang/invoke/VarHandle") : (Cond.sameMethod y.cls y.cls y.name y.desc).before a0 Z = true := by
  obtain ⟨mk, methM, hn, hm, hs, -⟩ := Cond.instanceMethod_spec wi
  have hf := State.methodFound?_of_named hn hy
  have hc := findClass_of_methodNamed hn
  obtain ⟨k, hk, hki⟩ := N _ hn
  have hn' : Z.methodNamed? { cls := y.cls, name := y.name, desc := y.desc } = some mk := hn
  simp [Cond.before, Cond.holds, Cond.value, hc, hf, hn', hk, hki]
theorem own_cpy {α : Type} (vs : List α) (d : α) {j n : Nat} (hj : j = 0) (hn : vs.length = n) : vs = (List.range n).map fun i => vs.getD (j + i) d := by
  subst hj hn
  apply List.ext_getElem?
  intro i
  by_cases h : i < vs.length
  · simp [List.getElem?_map, h, List.getD_eq_getElem?_getD]
  · simp [List.getElem?_map, h, Nat.le_of_not_lt h]
theorem own_padr {α : Type} (vs : List α) (d : α) {j k m : Nat} (hj : j = 0) : ∀ i, vs.getD i d = ((List.replicate m d).take j ++ vs ++ (List.replicate m d).drop k).getD i d := by
  intro i; subst hj
  simp only [List.take_zero, List.nil_append, List.drop_replicate, List.getD_eq_getElem?_getD]
  by_cases h : i < vs.length
  · rw [List.getElem?_append_left h]
  · rw [List.getElem?_append_right (by omega), List.getElem?_eq_none (by omega), List.getElem?_replicate]
    split <;> rfl
theorem own_c16 (x : Int32) : (x.toUInt32.toUInt16.toUInt32.toInt32).toUInt32.toUInt16.toUInt32.toInt32 = x.toUInt32.toUInt16.toUInt32.toInt32 := by
  have e1 : (x.toUInt32.toUInt16.toUInt32.toInt32).toUInt32 = x.toUInt32.toUInt16.toUInt32 := rfl
  rw [e1, UInt16.toUInt16_toUInt32]
def hiS (c : Int32) : Int32 := if ¬ c < (55296 : Int32) ∧ c < (56320 : Int32) then 1 else 0
def loS (c : Int32) : Int32 := if ¬ c < (56320 : Int32) ∧ c < (57344 : Int32) then 1 else 0
def jmax (a b : Int32) : Int32 := if a < b then b else a
def jmin (a b : Int32) : Int32 := if b < a then b else a
theorem own_add (a b : Nat) : Int32.ofNat a + Int32.ofNat b = Int32.ofNat (a + b) := (Int32.ofNat_add a b).symm
theorem own_subn {a b : Nat} (h : a ≤ b) (hb : b < 2 ^ 31) : ¬ (0 : Int32) < Int32.ofNat a - Int32.ofNat b := by
  have h0 : (0 : Int32).toInt = 0 := by decide
  rw [Int32.lt_iff_toInt_lt, Jvm.Kit.i32_sub (by rw [own_toInt (by omega), own_toInt hb]; omega) (by rw [own_toInt (by omega), own_toInt hb]; omega), own_toInt (by omega), own_toInt hb, h0]; omega
theorem own_z0 : (0 : Int32).toNatClampNeg = 0 := by decide
theorem own_jmin {a b : Nat} (h : a ≤ b) (hb : b < 2 ^ 31) : jmin (Int32.ofNat a) (Int32.ofNat b) = Int32.ofNat a := by
  rw [jmin, if_neg (fun q => by have := (own_lt hb (by omega)).mp q; omega)]
theorem own_jmin' {a b : Nat} (h : a < b) (hb : b < 2 ^ 31) : jmin (Int32.ofNat b) (Int32.ofNat a) = Int32.ofNat a := by
  rw [jmin, if_pos ((own_lt (by omega) hb).mpr h)]
theorem own_c255 {c : Int32} (r : ¬ c < 0 ∧ ¬ (255 : Int32) < c) : ¬ c < 0 ∧ ¬ (65535 : Int32) < c := ⟨r.1, fun q => r.2 (by
  have h5 : (255 : Int32).toInt = 255 := by decide
  have h6 : (65535 : Int32).toInt = 65535 := by decide
  rw [Int32.lt_iff_toInt_lt] at q ⊢; omega)⟩
theorem own_nc {c : Int32} (r : ¬ c < 0 ∧ ¬ (65535 : Int32) < c) : nar .char c = c := Value.int.inj (StrChars.narrow_ch r.1 r.2)
theorem own_fitc {c : Int32} (r : ¬ c < 0 ∧ ¬ (65535 : Int32) < c) : fits .char (.int c) = true := by
  have h := fits_nar_char c
  rw [own_nc r] at h; exact h
abbrev lat (cs : List Int32) : List Int32 := cs.map (fun c => c.toInt8.toInt32)
theorem own_apd (bs ts : List Int32) (d : Value) {j k m : Nat} (hj : j = bs.length) (hk : k = bs.length + ts.length) : ∀ i, ((bs ++ ts).map Value.int).getD i d = ((bs.map Value.int ++ List.replicate m d).take j ++ ts.map Value.int ++ (bs.map Value.int ++ List.replicate m d).drop k).getD i d := by
  subst hj hk
  intro i
  have e1 : (bs.map Value.int ++ List.replicate m d).take bs.length = bs.map Value.int := List.take_left' (by simp)
  have e2 : (bs.map Value.int ++ List.replicate m d).drop (bs.length + ts.length) = List.replicate (m - ts.length) d := by
    rw [List.drop_append, List.drop_eq_nil_of_le (by simp), List.nil_append, List.length_map, List.drop_replicate, Nat.add_sub_cancel_left]
  rw [e1, e2, ← List.map_append]
  generalize (bs ++ ts).map Value.int = l
  simp only [List.getD_eq_getElem?_getD]
  by_cases h : i < l.length
  · rw [List.getElem?_append_left h]
  · rw [List.getElem?_append_right (by omega), List.getElem?_eq_none (by omega), List.getElem?_replicate]
    split <;> rfl
theorem own_shl0 (x : Int32) : x <<< ((0 : Int32) &&& 31) = x := by
  have h : ((0 : Int32) &&& 31) = 0 := by decide
  rw [h, ← Int32.toBitVec_inj]
  simp
theorem own_padl (bs : List Int32) : ∀ i, (bs.map Value.int ++ List.replicate (16 - bs.length) (Value.int (0 : Int32))).getD i (Value.int (0 : Int32)) = (bs.map Value.int).getD i (Value.int (0 : Int32)) := pad_rep _ _ _
def Mrr (Z : State) (C : String) (m : Addr) : Prop := ∃ (c : ClassId) (k : Class), Z.vm.findClass C = some c ∧ Z.vm.classes[c]? = some k ∧ k.mirror = some m
section Mir
variable {p : Program} {l : Launch} {e : Env} {R : Room} {s : State} {m : MethodId} {args : Array Value} {below : List Frame} {meth : Method} {c : Code} {T : State} {locs : List Loc} {cells slots : Nat} {Z : State} {a0 : Array Value} {h : Heap} {a mr : Addr} {own C : String} {index : Nat}
theorem own_ldcM (X : Stand p l e R s m args below meth c T locs cells slots) (hx : p.tables.exec = Jvm.exec) (hZ : Z.Warmed39 s.vm) (hown : s.vm.findClass own = some m.cls) (w : (Cond.classLink own index C).before a0 Z = true) (eT : T.heap = h) (M : Mrr Z C mr) {g : JFrame} (hg : g.method = m) (hd : decode c.code g.pc = .ok (.ldc index, 2)) :
    ∃ T', Stand p l e R s m args below meth c T' locs cells slots ∧ T'.heap = h ∧ ∀ target, Steps p.tables e below (T'.setTop { g with pc := g.pc + 2, stack := .ref mr :: g.stack }) target → Steps p.tables e below (T.setTop g) target := by
  obtain ⟨cc, kc, m1, m2, m3⟩ := M
  obtain ⟨k', q, ek⟩ := hZ.alike.2.2 _ _ m2
  have hm : k'.mirror = some mr := by rw [ek]; exact m3
  have hf : s.vm.findClass C = some cc := by rw [hZ.alike.findClass]; exact m1
  have hev : (Term.mirror C).eval args s none [] s = some (.ref mr) := by simp [Term.eval, hf, q, hm]
  obtain ⟨vm', X', st⟩ := X.ldcMirror hx hown (mvT hZ w) hev hg hd
  exact ⟨_, X', eT, st⟩
theorem own_gcls (X : Stand p l e R s m args below meth c T locs cells slots) (hx : p.tables.exec = Jvm.exec) (hZ : Z.Warmed39 s.vm) (hown : s.vm.findClass own = some m.cls)
    (w1 : (Cond.methodLink own index Jvm.Stand.gcN).before a0 Z = true) (w2 : (Cond.declares Jvm.Stand.gcN).before a0 Z = true) (w3 : (Cond.noSuperclass "java/lang/Object").before a0 Z = true) (w4 : (Cond.selects C Jvm.Stand.gcN Jvm.Stand.gcN).before a0 Z = true) (w5 : (Cond.instanceMethod Jvm.Stand.gcN).before a0 Z = true) (w6 : (Cond.native Jvm.Stand.gcN).before a0 Z = true) (eT : T.heap = h) (E : Exa Z h a C) (M : Mrr Z C mr)
    {g : JFrame} (hg : g.method = m) (hsize : g.locals.size = c.maxLocals) {rest : List Value} (hs : g.stack = .ref a :: rest) (hd : decode c.code g.pc = .ok (.invokevirtual index, 3)) (hf : 1 ≤ R.frames) {W : Nat} (hW : 2 * g.monitorRoom + (rest.map fun v => v.category).sum ≤ W) (hl : W + (nativeFrameWords "java/lang/Object" "getClass" 1 + 11) ≤ R.locals) :
    ∃ T', Stand p l e R s m args below meth c T' locs cells slots ∧ T'.heap = h ∧ ∀ target, Steps p.tables e below (T'.setTop { g with pc := g.pc + 3, stack := .ref mr :: rest }) target → Steps p.tables e below (T.setTop g) target := by
  obtain ⟨cB, kB, i1, i2, i3⟩ := isOf hZ eT E
  obtain ⟨cc, kc, m1, m2, m3⟩ := M
  rw [hZ.alike.findClass] at i1
  cases i1.symm.trans m1
  obtain ⟨k', q, ek⟩ := hZ.alike.2.2 _ _ m2
  obtain ⟨vm', X', st⟩ := X.getClassOf hx hown (mvT hZ w1) (mvT hZ w2) (nf_top (args := #[]) (mvT hZ w3)) (mvT hZ w4) (mvT hZ w5) (mvT hZ w6) (by rw [hZ.alike.findClass]; exact m1) i3 q (by rw [ek]; exact m3) hg hsize hs hd hf (by omega)
  exact ⟨_, X', eT, st⟩
end Mir
theorem own_noinst {a0 : Array Value} {Z : State} {C S1 S2 O K K0 : String} {x y : MethodName} (w1 : (Cond.superclass C S1).before a0 Z = true) (w2 : (Cond.superclass S1 S2).before a0 Z = true) (w3 : (Cond.superclass S2 O).before a0 Z = true) (w4 : (Cond.noSuperclass O).before a0 Z = true) (ws : (Cond.selects K0 x y).before a0 Z = true) (hy : y.cls = K) (h1 : C ≠ K) (h2 : S1 ≠ K) (h3 : S2 ≠ K) (h4 : O ≠ K) : ∃ c t, Z.vm.findClass C = some c ∧ Z.vm.findClass K = some t ∧ Z.vm.assignable c t = false := by
  obtain ⟨c2, r2, m2, q1, q2, q3, q4, kP, hkP, hkPi⟩ := Cond.selects_spec ws
  have g1 := findClass_of_methodNamed q3
  rw [hy] at g1
  have n0 : NS Z O K := by
    obtain ⟨c, k, f1, e2, e3, -, -⟩ := Cond.noSuperclass_spec w4
    have ne := ids_ne f1 g1 h4
    refine ⟨c, _, f1, g1, fun fuel => ?_⟩
    cases fuel with
    | zero => rfl
    | succ f => simp [Vm.isSubclassAux, ne, e2, e3]
  obtain ⟨c, t, h0, g0, n3⟩ := NS.step w1 (NS.step w2 (NS.step w3 n0 h3) h2) h1
  cases g1.symm.trans g0
  obtain ⟨p, k, kp, f1, e2, e3, e4, e5, -, e7⟩ := Cond.superclass_spec h0 w1
  have ne := ids_ne h0 g1 h1
  refine ⟨c, _, h0, g1, ?_⟩
  show Z.vm.assignableAux (255 + 1) c _ = false
  cases hk : kP.kind <;> simp [Vm.assignableAux, ne, e2, hkP, e5, hk, hkPi, Vm.isSubclass, n3]
theorem own_arv0 {s : State} {args : Array Value} {t : Term} {a : Addr} {ty : FieldType} {d : Value} (hf : Fit s) (ev : t.eval args s none [] s = some (.ref a)) (h1 : (Cond.arrayOf t ty).value args s none s [] = some true) (h2 : (Cond.eq (Term.length t) (Term.int 0)).value args s none s [] = some true) : ∃ k, Arv s s.heap a k ty (0 : Int32) [] d := by
  obtain ⟨cl, A⟩ := Arr.start ev h1
  have ha : s.arrayAt? a = some cl := A.fin (Vm.Alike.refl _)
  by_cases hl : cl.slots.size < 2 ^ 31
  · have e2 : cl.slots.size.toInt32 = 0 := gotT (Cond.eq_ints (len_f ev ha hl) (Term.int_eval 0)) h2
    exact ⟨_, Arv.start hf A hl e2 (by decide) rfl trivial⟩
  · exfalso
    obtain ⟨x, y, ex, ey, -⟩ := cmp_v (Or.inl h2)
    simp [Term.eval, ev, ha, hl] at ex
theorem own_byte (x : Int32) : ¬ (((x &&& (255 : Int32)).toUInt32.toUInt16.toUInt32.toInt32).toUInt32.toUInt16.toUInt32.toInt32) < 0 ∧ ¬ (255 : Int32) < (((x &&& (255 : Int32)).toUInt32.toUInt16.toUInt32.toInt32).toUInt32.toUInt16.toUInt32.toInt32) := by
  rw [i2c_mask x, i2c_mask x]
  have e1 : (x &&& (255 : Int32)).toInt = x.toInt % 2 ^ 8 := Jvm.Kit.i32_mask x _ (k := 8) (by decide) (by decide)
  have h0 : (0 : Int32).toInt = 0 := by decide
  have h5 : (255 : Int32).toInt = 255 := by decide
  constructor
  · intro h; rw [Int32.lt_iff_toInt_lt] at h; omega
  · intro h; rw [Int32.lt_iff_toInt_lt] at h; omega
theorem own_byte1 (x : Int32) : ¬ ((x &&& (255 : Int32)).toUInt32.toUInt16.toUInt32.toInt32) < 0 ∧ ¬ (255 : Int32) < ((x &&& (255 : Int32)).toUInt32.toUInt16.toUInt32.toInt32) := by
  have h := own_byte x
  rw [i2c_mask x, i2c_mask x] at h
  rw [i2c_mask x]; exact h
abbrev EL1 : List (String × Nat) := [("com/example/nroute/nroute/route/Mistakes", 19), ("com/example/nroute/nroute/route/Mistakes", 25), ("com/example/nroute/nroute/route/MistakesAddPinLaw", 16)]
abbrev Rm (f c s l : Nat) : Room := { frames := f, cells := c, slots := s, locals := l }
abbrev mN0 : MethodName := ⟨"java/lang/String", "coder", "()B"⟩
abbrev mN1 : MethodName := ⟨"java/lang/String", "length", "()I"⟩
abbrev mN2 : MethodName := ⟨"java/lang/Math", "max", "(II)I"⟩
abbrev mN3 : MethodName := ⟨"java/lang/Math", "min", "(II)I"⟩
abbrev mN4 : MethodName := ⟨"java/util/Arrays", "checkLength", "(II)V"⟩
abbrev mN5 : MethodName := ⟨"java/util/Arrays", "copyOfRangeByte", "([BII)[B"⟩
abbrev mN6 : MethodName := ⟨"java/util/Arrays", "copyOfRange", "([BII)[B"⟩
abbrev mN7 : MethodName := ⟨"java/lang/AbstractStringBuilder", "<init>", "(I)V"⟩
abbrev mN8 : MethodName := ⟨"java/lang/StringBuilder", "<init>", "()V"⟩
abbrev mN9 : MethodName := ⟨"java/lang/String", "getBytes", "([BIB)V"⟩
abbrev mN10 : MethodName := ⟨"java/lang/AbstractStringBuilder", "inflateIfNeededFor", "(Ljava/lang/String;)V"⟩
abbrev mN11 : MethodName := ⟨"java/lang/AbstractStringBuilder", "putStringAt", "(ILjava/lang/String;)V"⟩
abbrev mN12 : MethodName := ⟨"java/lang/AbstractStringBuilder", "ensureCapacityInternal", "(I)V"⟩
abbrev mN13 : MethodName := ⟨"java/lang/AbstractStringBuilder", "append", "(Ljava/lang/String;)Ljava/lang/AbstractStringBuilder;"⟩
abbrev mN14 : MethodName := ⟨"java/lang/StringBuilder", "append", "(Ljava/lang/String;)Ljava/lang/StringBuilder;"⟩
abbrev mN15 : MethodName := ⟨"java/lang/AbstractStringBuilder", "isLatin1", "()Z"⟩
abbrev mN16 : MethodName := ⟨"java/lang/AbstractStringBuilder", "length", "()I"⟩
abbrev mN17 : MethodName := ⟨"java/lang/StringBuilder", "length", "()I"⟩
abbrev mN18 : MethodName := ⟨"java/lang/AbstractStringBuilder", "getValue", "()[B"⟩
abbrev mN19 : MethodName := ⟨"java/lang/String", "<init>", "(Ljava/lang/AbstractStringBuilder;Ljava/lang/Void;)V"⟩
abbrev mN20 : MethodName := ⟨"java/lang/String", "<init>", "(Ljava/lang/StringBuilder;)V"⟩
abbrev mN21 : MethodName := ⟨"java/lang/StringBuilder", "toString", "()Ljava/lang/String;"⟩
abbrev mN22 : MethodName := ⟨"java/util/AbstractCollection", "<init>", "()V"⟩
abbrev mN23 : MethodName := ⟨"java/util/ImmutableCollections$AbstractImmutableCollection", "<init>", "()V"⟩
abbrev mN24 : MethodName := ⟨"java/util/ImmutableCollections$AbstractImmutableList", "<init>", "()V"⟩
abbrev mN25 : MethodName := ⟨"java/util/AbstractList", "<init>", "()V"⟩
abbrev mN26 : MethodName := ⟨"java/util/ArrayList", "<init>", "()V"⟩
abbrev mN27 : MethodName := ⟨"com/example/nroute/nroute/route/Mistakes", "<init>", "()V"⟩
abbrev mN28 : MethodName := ⟨"java/util/ArrayList", "isEmpty", "()Z"⟩
abbrev mN29 : MethodName := ⟨"com/example/nroute/nroute/route/Mistakes", "isEmpty", "()Z"⟩
abbrev mN30 : MethodName := ⟨"java/util/List", "isEmpty", "()Z"⟩
abbrev mN31 : MethodName := ⟨"java/util/List", "of", "()Ljava/util/List;"⟩
abbrev mN32 : MethodName := ⟨"java/util/ImmutableCollections", "listCopy", "(Ljava/util/Collection;)Ljava/util/List;"⟩
abbrev mN33 : MethodName := ⟨"java/util/Collection", "isEmpty", "()Z"⟩
abbrev mN34 : MethodName := ⟨"java/util/List", "copyOf", "(Ljava/util/Collection;)Ljava/util/List;"⟩
abbrev mN35 : MethodName := ⟨"com/example/nroute/nroute/route/Mistakes", "lines", "()Ljava/util/List;"⟩
abbrev mN36 : MethodName := ⟨"java/util/ImmutableCollections$ListN", "size", "()I"⟩
abbrev mN37 : MethodName := ⟨"java/util/ArrayList", "grow", "(I)[Ljava/lang/Object;"⟩
abbrev mN38 : MethodName := ⟨"java/util/ArrayList", "grow", "()[Ljava/lang/Object;"⟩
abbrev mN39 : MethodName := ⟨"java/util/ArrayList", "add", "(Ljava/lang/Object;[Ljava/lang/Object;I)V"⟩
abbrev mN40 : MethodName := ⟨"java/util/ArrayList", "add", "(Ljava/lang/Object;)Z"⟩
abbrev mN41 : MethodName := ⟨"com/example/nroute/nroute/route/Mistakes", "add", "(Ljava/lang/String;Ljava/lang/String;)V"⟩
abbrev mN42 : MethodName := ⟨"java/util/List", "add", "(Ljava/lang/Object;)Z"⟩
abbrev mN43 : MethodName := ⟨"java/util/Arrays", "copyOf", "([Ljava/lang/Object;ILjava/lang/Class;)[Ljava/lang/Object;"⟩
abbrev mN44 : MethodName := ⟨"java/util/Arrays", "copyOf", "([Ljava/lang/Object;I)[Ljava/lang/Object;"⟩
abbrev mN45 : MethodName := ⟨"java/util/ArrayList", "toArray", "()[Ljava/lang/Object;"⟩
abbrev mN46 : MethodName := ⟨"java/util/Objects", "requireNonNull", "(Ljava/lang/Object;)Ljava/lang/Object;"⟩
abbrev mN47 : MethodName := ⟨"java/util/ImmutableCollections$List12", "<init>", "(Ljava/lang/Object;Ljava/lang/Object;)V"⟩
abbrev mN48 : MethodName := ⟨"java/util/List", "of", "([Ljava/lang/Object;)Ljava/util/List;"⟩
abbrev mN49 : MethodName := ⟨"java/util/Collection", "toArray", "()[Ljava/lang/Object;"⟩
abbrev mN50 : MethodName := ⟨"java/util/ImmutableCollections$List12", "size", "()I"⟩
abbrev mN51 : MethodName := ⟨"java/util/ImmutableCollections$List12", "get", "(I)Ljava/lang/Object;"⟩
abbrev mN52 : MethodName := ⟨"java/lang/StringLatin1", "canEncode", "(C)Z"⟩
abbrev mN53 : MethodName := ⟨"java/lang/StringLatin1", "toBytes", "(C)[B"⟩
abbrev mN54 : MethodName := ⟨"java/lang/String", "<init>", "([BB)V"⟩
abbrev mN55 : MethodName := ⟨"java/lang/String", "valueOf", "(C)Ljava/lang/String;"⟩
abbrev mN56 : MethodName := ⟨"java/lang/String", "<init>", "([C)V"⟩
abbrev mN57 : MethodName := ⟨"java/util/List", "size", "()I"⟩
abbrev mN58 : MethodName := ⟨"java/util/List", "get", "(I)Ljava/lang/Object;"⟩
abbrev mN59 : MethodName := ⟨"java/lang/String", "equals", "(Ljava/lang/Object;)Z"⟩
abbrev SAD (Z : State) : Prop := Sta Z Z.heap "java/lang/StringUTF16" "$assertionsDisabled" "Z" (.int (1 : Int32))
abbrev SHI (Z : State) : Prop := Sta Z Z.heap "java/lang/StringUTF16" "HI_BYTE_SHIFT" "I" (.int (0 : Int32))
abbrev SLO (Z : State) : Prop := Sta Z Z.heap "java/lang/StringUTF16" "LO_BYTE_SHIFT" "I" (.int (8 : Int32))
abbrev SCS (Z : State) (c : Int32) : Prop := Sta Z Z.heap "java/lang/String" "COMPACT_STRINGS" "Z" (.int c)

abbrev SFM (Z : State) (v : Value) : Prop := Sta Z Z.heap "jdk/internal/util/Preconditions" "SIOOBE_FORMATTER" "Ljava/util/function/BiFunction;" v
abbrev vI (i : Int32) : Slot := .val (.int i)
abbrev vR (a : Addr) : Slot := .val (.ref a)
abbrev SS (p : Program) (e : Env) (below : List Frame) (T : State) (m : MethodId) (pc : Nat) (ls : Array Slot) (st : List Value) (t : State) : Prop := Steps p.tables e below (T.setTop (mkF m pc ls st)) t
abbrev cD0 := jdk_42_method_152_code
abbrev cD1 := jdk_42_method_54_code
abbrev cD2 := jdk_29_method_65_code
abbrev cD3 := jdk_29_method_69_code
abbrev cD4 := jdk_65_method_131_code
abbrev cD5 := jdk_65_method_133_code
abbrev cD6 := jdk_65_method_132_code
abbrev cD7 := jdk_68_method_2_code
abbrev cD8 := jdk_67_method_1_code
abbrev cD9 := jdk_42_method_147_code
abbrev cD10 := jdk_68_method_71_code
abbrev cD11 := jdk_68_method_73_code
abbrev cD12 := jdk_68_method_9_code
abbrev cD13 := jdk_68_method_22_code
abbrev cD14 := jdk_67_method_7_code
abbrev cD15 := jdk_68_method_68_code
abbrev cD16 := jdk_68_method_6_code
abbrev cD17 := jdk_67_method_93_code
abbrev cD18 := jdk_68_method_64_code
abbrev cD19 := jdk_42_method_150_code
abbrev cD20 := jdk_42_method_53_code
abbrev cD21 := jdk_67_method_42_code
abbrev cD22 := jdk_22_method_1_code
abbrev cD23 := jdk_47_method_1_code
abbrev cD24 := jdk_46_method_1_code
abbrev cD25 := jdk_39_method_1_code
abbrev cD26 := jdk_38_method_2_code
abbrev cD27 := prog_26_method_1_code
abbrev cD28 := jdk_38_method_9_code
abbrev cD29 := prog_26_method_3_code
abbrev cD30 := jdk_40_method_36_code
abbrev cD31 := jdk_56_method_3_code
abbrev cD32 := jdk_40_method_48_code
abbrev cD33 := prog_26_method_4_code
abbrev cD34 := jdk_45_method_3_code
abbrev cD35 := jdk_38_method_6_code
abbrev cD36 := jdk_38_method_7_code
abbrev cD37 := jdk_38_method_24_code
abbrev cD38 := jdk_38_method_25_code
abbrev cD39 := prog_26_method_2_code
abbrev cD40 := jdk_65_method_120_code
abbrev cD41 := jdk_65_method_119_code
abbrev cD42 := jdk_38_method_16_code
abbrev cD43 := jdk_31_method_10_code
abbrev cD44 := jdk_44_method_2_code
abbrev cD45 := jdk_40_method_47_code
abbrev cD46 := jdk_44_method_3_code
abbrev cD47 := jdk_44_method_5_code
abbrev cD48 := jdk_43_method_3_code
abbrev cD49 := jdk_43_method_46_code
abbrev cD50 := jdk_42_method_151_code
abbrev cD51 := jdk_42_method_139_code
abbrev HW (a0 : Array Value) (Z : State) : Prop := ∀ d ∈ tables_1, d.before a0 Z = true
abbrev DK (c : ByteArray) (p : Nat) (i : Instr) (n : Nat) : Prop := decode c p = .ok (i, n)
abbrev MF (l : Launch) (y : MethodName) (c : ByteArray) (k : Nat) (r : Option FieldType) (ws : List Jvm.Cond) (R : Room) (Z : State) (A : Array Value) (h0 : Heap) (Q : Option Value → Heap → List Loc → Prop) : Prop := MetFree l y (head1 (Jvm.Cond.code y c k r :: ws) R) (fun a U => a = A ∧ Z.Warmed39 U.vm ∧ U.heap = h0) (fun _ _ _ _ _ => True) (fun _ U o U' => ∃ v L, o = .returned v ∧ Q v U'.heap L ∧ FrameEnd U o U' L R.cells R.slots)
theorem wL (n : Nat) : 2 * 0 + n ≤ n := by omega
theorem nvr {α : Type} {P : Prop} {o : Option α} {t : α} (h : o = some t) (q : o = none) : P := by rw [h] at q; cases q
abbrev SE (p : Program) (e : Env) (below : List Frame) (s : State) (m : MethodId) (A : Array Value) (n : Nat) (t : State) : Prop := Steps p.tables e below (s.setTop (entryFrame m A n)) t
set_option maxRecDepth 65536
set_option maxHeartbeats 40000000
theorem d28_0 : DK cD0 0 (.getstatic 38) 3 := by decide +kernel
theorem d28_3 : DK cD0 3 (.ifCond .eq 10) 3 := by decide +kernel
theorem d28_6 : DK cD0 6 (.aload_n 0) 1 := by decide +kernel
theorem d28_7 : DK cD0 7 (.getfield 15) 3 := by decide +kernel
theorem d28_10 : DK cD0 10 (.goto 4) 3 := by decide +kernel
theorem d28_14 : DK cD0 14 (.ireturn) 1 := by decide +kernel
theorem pn_1 : plainName "java/lang/String" = true := by first | (simp [plainName, overriddenIn]; done) | decide +kernel
theorem ef_rmCoderL (m : MethodId) (y0 : Addr) : entryFrame m #[(.ref y0)] 1 = (mkF m 0 #[vR y0] []) := by first | (simp [entryFrame, mkF, argsToLocals, Value.category]; done) | rfl
def Q_rmCoderL (Z : State) (a1 : Addr) (bs : List Int32) (t1 : Addr) (k1 : ClassId) (cs0 : Int32) (h0 : Heap) (n0 : Nat) (v : Option Value) (h : Heap) (L : List Loc) : Prop := v = some (.int 0) ∧ Fr n0 L ∧ h = h0
theorem rmCoderL (l : Launch) (Z : State) (a0 : Array Value) (hw : HW a0 Z) (ws : List Jvm.Cond) (a1 : Addr) (bs : List Int32) (t1 : Addr) (k1 : ClassId) (cs0 : Int32) (h0 : Heap) (n0 : Nat) (O0 : Old Z n0 h0) (S_CS : SCS Z cs0) (c_CS : ¬ (cs0 = (0 : Int32))) (E1 : Exa Z h0 a1 "java/lang/String") (F1 : Fld Z h0 a1 "java/lang/String" "value" "[B" (.ref t1)) (F2 : Fld Z h0 a1 "java/lang/String" "coder" "B" (.int 0)) (V1 : Arv Z h0 t1 k1 .byte (Int32.ofNat bs.length) (bs.map Value.int) (.int 0)) (hn : bs.length ≤ 16) :
  MF l mN0 jdk_42_method_152_code 1 (some .byte) ws (Rm 0 0 0 0) Z #[(.ref a1)] h0 (Q_rmCoderL Z a1 bs t1 k1 cs0 h0 n0) := by
 refine MetFree.of_bodySF (plainFor_of_name pn_1) hisR ?_
 intro p e s m args below meth c s₁ Bd hml0 hP hK
 obtain ⟨rfl, hZ, hh⟩ := hP
 have hx := Bd.exec
 have hby := Bd.bytes
 have hml : c.maxLocals = 1 := hml0
 have hown : s.vm.findClass "java/lang/String" = some m.cls := findClass_of_methodNamed Bd.named
 have X0 : Stand p l e (Rm 0 0 0 0) s m #[(.ref a1)] below meth c s₁ [] 0 0 := Stand.of_body Bd
 have e0 : s₁.heap = h0 := by rw [← hh, Bd.state]; rfl
 have N0 := Fr.nil n0
 have hn0 : n0 ≤ h0.size := O0.1 ▸ O0.2.1
 have pre0 : ∀ t, SS p e below s₁ m 0 #[vR a1] [] t → SE p e below s₁ m #[(.ref a1)] 1 t := fun t k => castTop (ef_rmCoderL m a1) k
 obtain ⟨T101, X101, e101, st101⟩ := getS2 X0 hx hZ hown (host := "") (Or.inl (tw hw 14 rfl)) Via.refl e0 (Sta.ext O0.2 S_CS) (g := (mkF m 0 #[vR a1] [])) rfl (hb hby d28_0)
 obtain ⟨T102, X102, e102, st102⟩ := getF X101 hx hZ hown (host := "") (Or.inl (tw hw 26 rfl)) Via.refl e101 F2 (g := (mkF m 7 #[vR a1] [(.ref a1)])) rfl rfl (hb hby d28_7)
 obtain ⟨fs, hr, hrun, hended, hW, hsame⟩ := X102.leave (v := some (.int 0)) (nvr Bd.returns)
 refine ⟨_, _, pre0 _ ?_, hrun, hended, _, _, rfl, ?_, ⟨_, rfl⟩, hW, hsame.mono (by decide) (by decide)⟩
 ·skip
  show SS p e below s₁ m 0 #[vR a1] [] _
  refine st101 _ ?_
  refine XS.ifNo X101.here hx rfl (hb hby d28_3) rfl ((if0 _ _).trans (feq (c_CS : ¬ (cs0 = (0 : Int32)))).1) ?_
  refine XS.aloadN X101.here hx rfl (hb hby d28_6) rfl rfl ?_
  show SS p e below T101 m 7 #[vR a1] [(.ref a1)] _
  refine st102 _ ?_
  refine XS.goto X102.here hx rfl (pc0 := 10) (pc' := 14) rfl (hb hby d28_10) (by decide) (by decide) ?_
  show SS p e below T102 m 14 #[vR a1] [(.int 0)] _
  exact retN X102 hx (t := .byte) Bd.returns (by simp) (hb hby d28_14) hr
 ·show Q_rmCoderL Z a1 bs t1 k1 cs0 h0 n0 _ T102.heap _
  rw [e102]
  exact ⟨rfl, N0, rfl⟩
theorem d27_0 : DK cD1 0 (.aload_n 0) 1 := by decide +kernel
theorem d27_1 : DK cD1 1 (.getfield 9) 3 := by decide +kernel
theorem d27_4 : DK cD1 4 (.arraylength) 1 := by decide +kernel
theorem d27_5 : DK cD1 5 (.aload_n 0) 1 := by decide +kernel
theorem d27_6 : DK cD1 6 (.invokevirtual 335) 3 := by decide +kernel
theorem d27_9 : DK cD1 9 (.ishr) 1 := by decide +kernel
theorem d27_10 : DK cD1 10 (.ireturn) 1 := by decide +kernel
theorem pd_18 : parseMethodDescriptor "()B" = some ⟨[], some .byte⟩ := by decide +kernel
theorem ef_rmLenL (m : MethodId) (y0 : Addr) : entryFrame m #[(.ref y0)] 1 = (mkF m 0 #[vR y0] []) := by first | (simp [entryFrame, mkF, argsToLocals, Value.category]; done) | rfl
def Q_rmLenL (Z : State) (a1 : Addr) (bs : List Int32) (t1 : Addr) (k1 : ClassId) (cs0 : Int32) (h0 : Heap) (n0 : Nat) (v : Option Value) (h : Heap) (L : List Loc) : Prop := v = some (.int (Int32.ofNat bs.length)) ∧ Fr n0 L ∧ h = h0
theorem rmLenL (l : Launch) (Z : State) (a0 : Array Value) (hw : HW a0 Z) (ws : List Jvm.Cond) (a1 : Addr) (bs : List Int32) (t1 : Addr) (k1 : ClassId) (cs0 : Int32) (h0 : Heap) (n0 : Nat) (O0 : Old Z n0 h0) (S_CS : SCS Z cs0) (c_CS : ¬ (cs0 = (0 : Int32))) (E1 : Exa Z h0 a1 "java/lang/String") (F1 : Fld Z h0 a1 "java/lang/String" "value" "[B" (.ref t1)) (F2 : Fld Z h0 a1 "java/lang/String" "coder" "B" (.int 0)) (V1 : Arv Z h0 t1 k1 .byte (Int32.ofNat bs.length) (bs.map Value.int) (.int 0)) (hn : bs.length ≤ 16) :
  MF l mN1 jdk_42_method_54_code 1 (some .int) ws (Rm 1 0 0 20) Z #[(.ref a1)] h0 (Q_rmLenL Z a1 bs t1 k1 cs0 h0 n0) := by
 refine MetFree.of_bodySF (plainFor_of_name pn_1) hisR ?_
 intro p e s m args below meth c s₁ Bd hml0 hP hK
 obtain ⟨rfl, hZ, hh⟩ := hP
 have hx := Bd.exec
 have hby := Bd.bytes
 have hml : c.maxLocals = 1 := hml0
 have hown : s.vm.findClass "java/lang/String" = some m.cls := findClass_of_methodNamed Bd.named
 have X0 : Stand p l e (Rm 1 0 0 20) s m #[(.ref a1)] below meth c s₁ [] 0 0 := Stand.of_body Bd
 have e0 : s₁.heap = h0 := by rw [← hh, Bd.state]; rfl
 have N0 := Fr.nil n0
 have hn0 : n0 ≤ h0.size := O0.1 ▸ O0.2.1
 have pre0 : ∀ t, SS p e below s₁ m 0 #[vR a1] [] t → SE p e below s₁ m #[(.ref a1)] 1 t := fun t k => castTop (ef_rmLenL m a1) k
 obtain ⟨T101, X101, e101, st101⟩ := getF X0 hx hZ hown (host := "") (Or.inl (tw hw 28 rfl)) Via.refl e0 F1 (g := (mkF m 1 #[vR a1] [(.ref a1)])) rfl rfl (hb hby d27_1)
 obtain ⟨cl102, Ar102, q102, S102, Nn102, H102, G102⟩ := id V1
 obtain ⟨cq103, kq103, q103a, q103b, q103c⟩ := isOf hZ e101 E1
 obtain ⟨_, _, ⟨T103, L103, k103, n103⟩, -, X103, ⟨Lc103, hQ103, l103, y103, z103⟩, st103⟩ := X101.virtualBack hx (y := mN0) (z := mN0) hown (mvT hZ (tw hw 175 rfl)) (mvT hZ (tw hw 176 rfl)) (notFace_of_selects (args := #[]) (mvT hZ (tw hw 178 rfl))) (mvT hZ (tw hw 178 rfl)) (mvT hZ (tw hw 177 rfl)) (by decide) (backOf (W := 1) (rmCoderL l Z a0 hw [] a1 bs t1 k1 cs0 h0 n0 O0 S_CS c_CS E1 F1 F2 V1 hn) hZ (tw hw 179 rfl) (tw hw 2 rfl) (by decide) (by decide)) q103a q103c (g := (mkF m 6 #[vR a1] [(.ref a1), (.int (Int32.ofNat bs.length))])) rfl (by rw [hml]; rfl) (Steps.refl _) (argsL := []) (rest := [(.int (Int32.ofNat bs.length))]) (lenOf pd_18 rfl) rfl (wL _) (hb hby d27_6) (fun _ _ => ⟨rfl, e101, (by decide : 0 + 0 ≤ _), (by decide : 0 + 0 ≤ _)⟩)
 dsimp only [Pt.U, Pt.locs, Pt.cells, Pt.slots] at X103 l103 y103 z103 st103 hQ103
 rw [l103] at X103
 subst y103 z103
 obtain ⟨rfl, N103q, H103⟩ := hQ103
 have N103 := Fr.app N0 N103q
 obtain ⟨fs, hr, hrun, hended, hW, hsame⟩ := X103.leave (v := some (.int ((Int32.ofNat bs.length) >>> ((0 : Int32) &&& 31)))) (nvr Bd.returns)
 refine ⟨_, _, pre0 _ ?_, hrun, hended, _, _, rfl, ?_, ⟨_, rfl⟩, hW, hsame.mono (by decide) (by decide)⟩
 ·skip
  show SS p e below s₁ m 0 #[vR a1] [] _
  refine XS.aloadN X0.here hx rfl (hb hby d27_0) rfl rfl ?_
  show SS p e below s₁ m 1 #[vR a1] [(.ref a1)] _
  refine st101 _ ?_
  show SS p e below T101 m 4 #[vR a1] [(.ref t1)] _
  refine X101.arraylength hx (by rw [e101]; exact Ar102.1) (State.isArrayOf_alike hZ.alike Ar102.2.1) (g := (mkF m 4 #[vR a1] [(.ref t1)])) rfl rfl (hb hby d27_4) _ ?_
  rw [len_of S102 Nn102]
  refine XS.aloadN X101.here hx rfl (hb hby d27_5) rfl rfl ?_
  show SS p e below T101 m 6 #[vR a1] [(.ref a1), (.int (Int32.ofNat bs.length))] _
  refine st103.trans ?_
  show SS p e below T103 m 9 #[vR a1] [(.int 0), (.int (Int32.ofNat bs.length))] _
  refine XS.ishr X103.here hx rfl (hb hby d27_9) rfl ?_
  show SS p e below T103 m 10 #[vR a1] [(.int ((Int32.ofNat bs.length) >>> ((0 : Int32) &&& 31)))] _
  exact retI X103 hx Bd.returns (hb hby d27_10) hr
 ·show Q_rmLenL Z a1 bs t1 k1 cs0 h0 n0 _ T103.heap _
  rw [H103]
  exact ⟨congrArg (fun z => some (Value.int z)) (own_shr0 _), N103, rfl⟩
theorem d48_0 : DK cD2 0 (.iload_n 0) 1 := by decide +kernel
theorem d48_1 : DK cD2 1 (.iload_n 1) 1 := by decide +kernel
theorem d48_2 : DK cD2 2 (.if_icmp .lt 7) 3 := by decide +kernel
theorem d48_5 : DK cD2 5 (.iload_n 0) 1 := by decide +kernel
theorem d48_6 : DK cD2 6 (.goto 4) 3 := by decide +kernel
theorem d48_9 : DK cD2 9 (.iload_n 1) 1 := by decide +kernel
theorem d48_10 : DK cD2 10 (.ireturn) 1 := by decide +kernel
theorem ef_rmMmax (m : MethodId) (y0 : Int32) (y1 : Int32) : entryFrame m #[(.int y0), (.int y1)] 2 = (mkF m 0 #[vI y0, vI y1] []) := by first | (simp [entryFrame, mkF, argsToLocals, Value.category]; done) | rfl
def Q_rmMmax (Z : State) (p1 : Int32) (p2 : Int32) (h0 : Heap) (n0 : Nat) (v : Option Value) (h : Heap) (L : List Loc) : Prop := v = some (.int (jmax p1 p2)) ∧ Fr n0 L ∧ h = h0
theorem rmMmax (l : Launch) (Z : State) (a0 : Array Value) (hw : HW a0 Z) (ws : List Jvm.Cond) (p1 : Int32) (p2 : Int32) (h0 : Heap) (n0 : Nat) (O0 : Old Z n0 h0) :
  MF l mN2 jdk_29_method_65_code 2 (some .int) ws (Rm 0 0 0 0) Z #[(.int p1), (.int p2)] h0 (Q_rmMmax Z p1 p2 h0 n0) := by
 refine MetFree.of_bodySF (Jvm.Free.JP.mathPlain rfl (by decide +kernel)) hisR ?_
 intro p e s m args below meth c s₁ Bd hml0 hP hK
 obtain ⟨rfl, hZ, hh⟩ := hP
 have hx := Bd.exec
 have hby := Bd.bytes
 have hml : c.maxLocals = 2 := hml0
 have hown : s.vm.findClass "java/lang/Math" = some m.cls := findClass_of_methodNamed Bd.named
 have X0 : Stand p l e (Rm 0 0 0 0) s m #[(.int p1), (.int p2)] below meth c s₁ [] 0 0 := Stand.of_body Bd
 have e0 : s₁.heap = h0 := by rw [← hh, Bd.state]; rfl
 have N0 := Fr.nil n0
 have hn0 : n0 ≤ h0.size := O0.1 ▸ O0.2.1
 have pre0 : ∀ t, SS p e below s₁ m 0 #[vI p1, vI p2] [] t → SE p e below s₁ m #[(.int p1), (.int p2)] 2 t := fun t k => castTop (ef_rmMmax m p1 p2) k
 have pre102 : ∀ t, SS p e below s₁ m 2 #[vI p1, vI p2] [(.int p2), (.int p1)] t → SE p e below s₁ m #[(.int p1), (.int p2)] 2 t := by
  intro t kt
  refine pre0 _ ?_
  show SS p e below s₁ m 0 #[vI p1, vI p2] [] _
  refine XS.iloadN X0.here hx rfl (hb hby d48_0) rfl ?_
  refine XS.iloadN X0.here hx rfl (hb hby d48_1) rfl ?_
  exact kt
 by_cases hc101 : p1 < p2
 ·skip
  obtain ⟨fs, hr, hrun, hended, hW, hsame⟩ := X0.leave (v := some (.int p2)) (nvr Bd.returns)
  refine ⟨_, _, pre102 _ ?_, hrun, hended, _, _, rfl, ?_, ⟨_, rfl⟩, hW, hsame.mono (by decide) (by decide)⟩
  ·skip
   show SS p e below s₁ m 2 #[vI p1, vI p2] [(.int p2), (.int p1)] _
   refine XS.icmpYes X0.here hx rfl (pc0 := 2) (pc' := 9) rfl (hb hby d48_2) rfl (tlt hc101).1 (by decide) (by decide) ?_
   refine XS.iloadN X0.here hx rfl (hb hby d48_9) rfl ?_
   show SS p e below s₁ m 10 #[vI p1, vI p2] [(.int p2)] _
   exact retI X0 hx Bd.returns (hb hby d48_10) hr
  ·show Q_rmMmax Z p1 p2 h0 n0 _ s₁.heap _
   rw [e0]
   exact ⟨by rw [jmax, if_pos hc101], N0, rfl⟩
 ·skip
  obtain ⟨fs, hr, hrun, hended, hW, hsame⟩ := X0.leave (v := some (.int p1)) (nvr Bd.returns)
  refine ⟨_, _, pre102 _ ?_, hrun, hended, _, _, rfl, ?_, ⟨_, rfl⟩, hW, hsame.mono (by decide) (by decide)⟩
  ·skip
   show SS p e below s₁ m 2 #[vI p1, vI p2] [(.int p2), (.int p1)] _
   refine XS.icmpNo X0.here hx rfl (hb hby d48_2) rfl (flt hc101).1 ?_
   refine XS.iloadN X0.here hx rfl (hb hby d48_5) rfl ?_
   refine XS.goto X0.here hx rfl (pc0 := 6) (pc' := 10) rfl (hb hby d48_6) (by decide) (by decide) ?_
   show SS p e below s₁ m 10 #[vI p1, vI p2] [(.int p1)] _
   exact retI X0 hx Bd.returns (hb hby d48_10) hr
  ·show Q_rmMmax Z p1 p2 h0 n0 _ s₁.heap _
   rw [e0]
   exact ⟨by rw [jmax, if_neg hc101], N0, rfl⟩
theorem d43_0 : DK cD3 0 (.iload_n 0) 1 := by decide +kernel
theorem d43_1 : DK cD3 1 (.iload_n 1) 1 := by decide +kernel
theorem d43_2 : DK cD3 2 (.if_icmp .gt 7) 3 := by decide +kernel
theorem d43_5 : DK cD3 5 (.iload_n 0) 1 := by decide +kernel
theorem d43_6 : DK cD3 6 (.goto 4) 3 := by decide +kernel
theorem d43_9 : DK cD3 9 (.iload_n 1) 1 := by decide +kernel
theorem d43_10 : DK cD3 10 (.ireturn) 1 := by decide +kernel
theorem ef_rmMmin (m : MethodId) (y0 : Int32) (y1 : Int32) : entryFrame m #[(.int y0), (.int y1)] 2 = (mkF m 0 #[vI y0, vI y1] []) := by first | (simp [entryFrame, mkF, argsToLocals, Value.category]; done) | rfl
def Q_rmMmin (Z : State) (p1 : Int32) (p2 : Int32) (h0 : Heap) (n0 : Nat) (v : Option Value) (h : Heap) (L : List Loc) : Prop := v = some (.int (jmin p1 p2)) ∧ Fr n0 L ∧ h = h0
theorem rmMmin (l : Launch) (Z : State) (a0 : Array Value) (hw : HW a0 Z) (ws : List Jvm.Cond) (p1 : Int32) (p2 : Int32) (h0 : Heap) (n0 : Nat) (O0 : Old Z n0 h0) :
  MF l mN3 jdk_29_method_69_code 2 (some .int) ws (Rm 0 0 0 0) Z #[(.int p1), (.int p2)] h0 (Q_rmMmin Z p1 p2 h0 n0) := by
 refine MetFree.of_bodySF (Jvm.Free.JP.mathPlain rfl (by decide +kernel)) hisR ?_
 intro p e s m args below meth c s₁ Bd hml0 hP hK
 obtain ⟨rfl, hZ, hh⟩ := hP
 have hx := Bd.exec
 have hby := Bd.bytes
 have hml : c.maxLocals = 2 := hml0
 have hown : s.vm.findClass "java/lang/Math" = some m.cls := findClass_of_methodNamed Bd.named
 have X0 : Stand p l e (Rm 0 0 0 0) s m #[(.int p1), (.int p2)] below meth c s₁ [] 0 0 := Stand.of_body Bd
 have e0 : s₁.heap = h0 := by rw [← hh, Bd.state]; rfl
 have N0 := Fr.nil n0
 have hn0 : n0 ≤ h0.size := O0.1 ▸ O0.2.1
 have pre0 : ∀ t, SS p e below s₁ m 0 #[vI p1, vI p2] [] t → SE p e below s₁ m #[(.int p1), (.int p2)] 2 t := fun t k => castTop (ef_rmMmin m p1 p2) k
 have pre102 : ∀ t, SS p e below s₁ m 2 #[vI p1, vI p2] [(.int p2), (.int p1)] t → SE p e below s₁ m #[(.int p1), (.int p2)] 2 t := by
  intro t kt
  refine pre0 _ ?_
  show SS p e below s₁ m 0 #[vI p1, vI p2] [] _
  refine XS.iloadN X0.here hx rfl (hb hby d43_0) rfl ?_
  refine XS.iloadN X0.here hx rfl (hb hby d43_1) rfl ?_
  exact kt
 by_cases hc101 : p2 < p1
 ·skip
  obtain ⟨fs, hr, hrun, hended, hW, hsame⟩ := X0.leave (v := some (.int p2)) (nvr Bd.returns)
  refine ⟨_, _, pre102 _ ?_, hrun, hended, _, _, rfl, ?_, ⟨_, rfl⟩, hW, hsame.mono (by decide) (by decide)⟩
  ·skip
   show SS p e below s₁ m 2 #[vI p1, vI p2] [(.int p2), (.int p1)] _
   refine XS.icmpYes X0.here hx rfl (pc0 := 2) (pc' := 9) rfl (hb hby d43_2) rfl (tlt hc101).2.2.1 (by decide) (by decide) ?_
   refine XS.iloadN X0.here hx rfl (hb hby d43_9) rfl ?_
   show SS p e below s₁ m 10 #[vI p1, vI p2] [(.int p2)] _
   exact retI X0 hx Bd.returns (hb hby d43_10) hr
  ·show Q_rmMmin Z p1 p2 h0 n0 _ s₁.heap _
   rw [e0]
   exact ⟨by rw [jmin, if_pos hc101], N0, rfl⟩
 ·skip
  obtain ⟨fs, hr, hrun, hended, hW, hsame⟩ := X0.leave (v := some (.int p1)) (nvr Bd.returns)
  refine ⟨_, _, pre102 _ ?_, hrun, hended, _, _, rfl, ?_, ⟨_, rfl⟩, hW, hsame.mono (by decide) (by decide)⟩
  ·skip
   show SS p e below s₁ m 2 #[vI p1, vI p2] [(.int p2), (.int p1)] _
   refine XS.icmpNo X0.here hx rfl (hb hby d43_2) rfl (flt hc101).2.2.1 ?_
   refine XS.iloadN X0.here hx rfl (hb hby d43_5) rfl ?_
   refine XS.goto X0.here hx rfl (pc0 := 6) (pc' := 10) rfl (hb hby d43_6) (by decide) (by decide) ?_
   show SS p e below s₁ m 10 #[vI p1, vI p2] [(.int p1)] _
   exact retI X0 hx Bd.returns (hb hby d43_10) hr
  ·show Q_rmMmin Z p1 p2 h0 n0 _ s₁.heap _
   rw [e0]
   exact ⟨by rw [jmin, if_neg hc101], N0, rfl⟩
theorem d42_0 : DK cD4 0 (.iload_n 1) 1 := by decide +kernel
theorem d42_1 : DK cD4 1 (.iload_n 0) 1 := by decide +kernel
theorem d42_2 : DK cD4 2 (.if_icmp .ge 35) 3 := by decide +kernel
theorem d42_37 : DK cD4 37 (.return_) 1 := by decide +kernel
theorem pn_40 : plainName "java/util/Arrays" = true := by first | (simp [plainName, overriddenIn]; done) | decide +kernel
theorem ef_rmCkl (m : MethodId) (y0 : Int32) : entryFrame m #[(.int 0), (.int y0)] 2 = (mkF m 0 #[vI 0, vI y0] []) := by first | (simp [entryFrame, mkF, argsToLocals, Value.category]; done) | rfl
def Q_rmCkl (Z : State) (n : Nat) (h0 : Heap) (n0 : Nat) (v : Option Value) (h : Heap) (L : List Loc) : Prop := v = none ∧ Fr n0 L ∧ h = h0
theorem rmCkl (l : Launch) (Z : State) (a0 : Array Value) (hw : HW a0 Z) (ws : List Jvm.Cond) (n : Nat) (h0 : Heap) (n0 : Nat) (O0 : Old Z n0 h0) (hn : n < 2 ^ 31) :
  MF l mN4 jdk_65_method_131_code 2 none ws (Rm 0 0 0 0) Z #[(.int 0), (.int (Int32.ofNat n))] h0 (Q_rmCkl Z n h0 n0) := by
 refine MetFree.of_bodySF (plainFor_of_name pn_40) hisR ?_
 intro p e s m args below meth c s₁ Bd hml0 hP hK
 obtain ⟨rfl, hZ, hh⟩ := hP
 have hx := Bd.exec
 have hby := Bd.bytes
 have hml : c.maxLocals = 2 := hml0
 have hown : s.vm.findClass "java/util/Arrays" = some m.cls := findClass_of_methodNamed Bd.named
 have X0 : Stand p l e (Rm 0 0 0 0) s m #[(.int 0), (.int (Int32.ofNat n))] below meth c s₁ [] 0 0 := Stand.of_body Bd
 have e0 : s₁.heap = h0 := by rw [← hh, Bd.state]; rfl
 have N0 := Fr.nil n0
 have hn0 : n0 ≤ h0.size := O0.1 ▸ O0.2.1
 have pre0 : ∀ t, SS p e below s₁ m 0 #[vI 0, vI (Int32.ofNat n)] [] t → SE p e below s₁ m #[(.int 0), (.int (Int32.ofNat n))] 2 t := fun t k => castTop (ef_rmCkl m ((Int32.ofNat n))) k
 obtain ⟨fs, hr, hrun, hended, hW, hsame⟩ := X0.leave (v := none) (fun _ => rfl)
 refine ⟨_, _, pre0 _ ?_, hrun, hended, _, _, rfl, ?_, ⟨_, rfl⟩, hW, hsame.mono (by decide) (by decide)⟩
 ·skip
  show SS p e below s₁ m 0 #[vI 0, vI (Int32.ofNat n)] [] _
  refine XS.iloadN X0.here hx rfl (hb hby d42_0) rfl ?_
  refine XS.iloadN X0.here hx rfl (hb hby d42_1) rfl ?_
  refine XS.icmpYes X0.here hx rfl (pc0 := 2) (pc' := 37) rfl (hb hby d42_2) rfl (flt (own_nn hn : ¬ ((Int32.ofNat n) < (0 : Int32)))).2.1 (by decide) (by decide) ?_
  show SS p e below s₁ m 37 #[vI 0, vI (Int32.ofNat n)] [] _
  exact X0.returnOut hx Bd.returns (hb hby d42_37) hr
 ·show Q_rmCkl Z n h0 n0 _ s₁.heap _
  rw [e0]
  exact ⟨rfl, N0, rfl⟩
theorem d41_0 : DK cD5 0 (.iload_n 1) 1 := by decide +kernel
theorem d41_1 : DK cD5 1 (.iload_n 2) 1 := by decide +kernel
theorem d41_2 : DK cD5 2 (.invokestatic 343) 3 := by decide +kernel
theorem d41_5 : DK cD5 5 (.iload_n 2) 1 := by decide +kernel
theorem d41_6 : DK cD5 6 (.iload_n 1) 1 := by decide +kernel
theorem d41_7 : DK cD5 7 (.isub) 1 := by decide +kernel
theorem d41_8 : DK cD5 8 (.istore_n 3) 1 := by decide +kernel
theorem d41_9 : DK cD5 9 (.iload_n 3) 1 := by decide +kernel
theorem d41_10 : DK cD5 10 (.newarray .byte) 2 := by decide +kernel
theorem d41_12 : DK cD5 12 (.astore 4) 2 := by decide +kernel
theorem d41_14 : DK cD5 14 (.aload_n 0) 1 := by decide +kernel
theorem d41_15 : DK cD5 15 (.iload_n 1) 1 := by decide +kernel
theorem d41_16 : DK cD5 16 (.aload 4) 2 := by decide +kernel
theorem d41_18 : DK cD5 18 (.iconst 0) 1 := by decide +kernel
theorem d41_19 : DK cD5 19 (.aload_n 0) 1 := by decide +kernel
theorem d41_20 : DK cD5 20 (.arraylength) 1 := by decide +kernel
theorem d41_21 : DK cD5 21 (.iload_n 1) 1 := by decide +kernel
theorem d41_22 : DK cD5 22 (.isub) 1 := by decide +kernel
theorem d41_23 : DK cD5 23 (.iload_n 3) 1 := by decide +kernel
theorem d41_24 : DK cD5 24 (.invokestatic 304) 3 := by decide +kernel
theorem d41_27 : DK cD5 27 (.invokestatic 150) 3 := by decide +kernel
theorem d41_30 : DK cD5 30 (.aload 4) 2 := by decide +kernel
theorem d41_32 : DK cD5 32 (.areturn) 1 := by decide +kernel
theorem pd_28 : parseMethodDescriptor "(II)V" = some ⟨[.int, .int], none⟩ := by decide +kernel
theorem pd_29 : parseMethodDescriptor "(II)I" = some ⟨[.int, .int], some .int⟩ := by decide +kernel
theorem ef_rmCrb (m : MethodId) (y0 : Addr) (y1 : Int32) : entryFrame m #[(.ref y0), (.int 0), (.int y1)] 5 = (mkF m 0 #[vR y0, vI 0, vI y1, .unset, .unset] []) := by first | (simp [entryFrame, mkF, argsToLocals, Value.category]; done) | rfl
def Q_rmCrb (Z : State) (a1 : Addr) (n zc : Nat) (k1 : ClassId) (vs : List Value) (h0 : Heap) (n0 : Nat) (v : Option Value) (h : Heap) (L : List Loc) : Prop := ∃ (t : Addr) (kb : ClassId), v = some (.ref t) ∧ Fr n0 L ∧ Keep h0 h [] ∧ h0.size ≤ t ∧ Arv Z h t kb .byte (Int32.ofNat n) vs (.int 0)
theorem rmCrb (l : Launch) (Z : State) (a0 : Array Value) (hw : HW a0 Z) (ws : List Jvm.Cond) (a1 : Addr) (n zc : Nat) (k1 : ClassId) (vs : List Value) (h0 : Heap) (n0 : Nat) (O0 : Old Z n0 h0) (V1 : Arv Z h0 a1 k1 .byte (Int32.ofNat zc) vs (.int 0)) (hl : vs.length = n) (hnz : n < zc) (hn : n ≤ 16) (hz : zc < 2 ^ 31) :
  MF l mN5 jdk_65_method_133_code 5 (some (.array .byte)) ws (Rm 1 1 16 40) Z #[(.ref a1), (.int 0), (.int (Int32.ofNat n))] h0 (Q_rmCrb Z a1 n zc k1 vs h0 n0) := by
 refine MetFree.of_bodySF (plainFor_of_name pn_40) hisR ?_
 intro p e s m args below meth c s₁ Bd hml0 hP hK
 obtain ⟨rfl, hZ, hh⟩ := hP
 have hx := Bd.exec
 have hby := Bd.bytes
 have hml : c.maxLocals = 5 := hml0
 have hown : s.vm.findClass "java/util/Arrays" = some m.cls := findClass_of_methodNamed Bd.named
 have X0 : Stand p l e (Rm 1 1 16 40) s m #[(.ref a1), (.int 0), (.int (Int32.ofNat n))] below meth c s₁ [] 0 0 := Stand.of_body Bd
 have e0 : s₁.heap = h0 := by rw [← hh, Bd.state]; rfl
 have N0 := Fr.nil n0
 have hn0 : n0 ≤ h0.size := O0.1 ▸ O0.2.1
 have pre0 : ∀ t, SS p e below s₁ m 0 #[vR a1, vI 0, vI (Int32.ofNat n), .unset, .unset] [] t → SE p e below s₁ m #[(.ref a1), (.int 0), (.int (Int32.ofNat n))] 5 t := fun t k => castTop (ef_rmCrb m a1 ((Int32.ofNat n))) k
 have lt_a1 : @LT.lt Nat _ a1 h0.size := V1.lt
 obtain ⟨_, _, ⟨T101, L101, k101, n101⟩, -, X101, ⟨Lc101, hQ101, l101, y101, z101⟩, st101⟩ := Jvm.LawKit.callS X0 hx (y := mN4) hown (mvT hZ (tw hw 245 rfl)) (mvT hZ (tw hw 246 rfl)) (mvT hZ (tw hw 240 rfl)) (mvT hZ (tw hw 247 rfl)) (by decide) (backOf (W := 0) (rmCkl l Z a0 hw []  n h0 n0 O0 (by omega)) hZ (tw hw 247 rfl) (tw hw 240 rfl) (by decide) (by decide)) (g := (mkF m 2 #[vR a1, vI 0, vI (Int32.ofNat n), .unset, .unset] [(.int (Int32.ofNat n)), (.int 0)])) rfl (by rw [hml]; rfl) (argsL := [(.int 0), (.int (Int32.ofNat n))]) (rest := []) (lenOf pd_28 rfl) rfl (wL _) (hb hby d41_2) (fun _ _ => ⟨rfl, e0, (by decide : 0 + 0 ≤ _), (by decide : 0 + 0 ≤ _)⟩)
 dsimp only [Pt.U, Pt.locs, Pt.cells, Pt.slots] at X101 l101 y101 z101 st101 hQ101
 rw [l101] at X101
 subst y101 z101
 obtain ⟨rfl, N101q, H101⟩ := hQ101
 have N101 := Fr.app N0 N101q
 have hr102 : ((Int32.ofNat n) - (0 : Int32)) = (Int32.ofNat n) := Int32.sub_zero _
 obtain ⟨T103, h103, k103, X103, e103, E103, A103, st103⟩ := newP X101 hx hZ (tw hw 19 rfl) H101 (g := (mkF m 10 #[vR a1, vI 0, vI (Int32.ofNat n), vI (Int32.ofNat n), .unset] [(.int (Int32.ofNat n))])) rfl (hb hby d41_10) rfl (own_nn (by omega)) (cap := 16) (by rw [own_nat (by omega)]; omega) (by decide) (by decide) (by decide)
 obtain ⟨b103, g103⟩ : ∃ z, z = h0.size := ⟨_, rfl⟩
 rw [← g103] at A103 st103
 have V103 : Arv Z h103 b103 k103 .byte (Int32.ofNat n) (List.replicate n (.int 0)) (.int 0) := (Arv.new A103 (own_nn (by omega))).pad (pad_rep [] (.int 0) n)
 have lt103 : @LT.lt Nat _ b103 h103.size := V103.lt
 have K103 : Keep h0 h103 [] := (Keep.refl _ _).ext E103
 have sz1_K103 := K103.1
 have C104 := V1.keep K103 nin0
 obtain ⟨cl105, Ar105, q105, S105, Nn105, H105, G105⟩ := id C104
 have hr106 : ((Int32.ofNat zc) - (0 : Int32)) = (Int32.ofNat zc) := Int32.sub_zero _
 have O108 : Old Z n0 h103 := O0.keep K103 all0
 obtain ⟨_, _, ⟨T107, L107, k107, n107⟩, -, X107, ⟨Lc107, hQ107, l107, y107, z107⟩, st107⟩ := Jvm.LawKit.callS X103 hx (y := mN3) hown (mvT hZ (tw hw 248 rfl)) (mvT hZ (tw hw 249 rfl)) (mvT hZ (tw hw 250 rfl)) (mvT hZ (tw hw 251 rfl)) (by decide) (backOf (W := 4) (rmMmin l Z a0 hw [] (Int32.ofNat zc) (Int32.ofNat n)  h103 n0 O108 ) hZ (tw hw 251 rfl) (tw hw 250 rfl) (by decide) (by decide)) (g := (mkF m 24 #[vR a1, vI 0, vI (Int32.ofNat n), vI (Int32.ofNat n), vR b103] [(.int (Int32.ofNat n)), (.int (Int32.ofNat zc)), (.int 0), (.ref b103), (.int 0), (.ref a1)])) rfl (by rw [hml]; rfl) (argsL := [(.int (Int32.ofNat zc)), (.int (Int32.ofNat n))]) (rest := [(.int 0), (.ref b103), (.int 0), (.ref a1)]) (lenOf pd_29 rfl) rfl (wL _) (hb hby d41_24) (fun _ _ => ⟨rfl, e103, (by decide : 1 + 0 ≤ _), (by decide : 16 + 0 ≤ _)⟩)
 dsimp only [Pt.U, Pt.locs, Pt.cells, Pt.slots] at X107 l107 y107 z107 st107 hQ107
 rw [l107] at X107
 subst y107 z107
 obtain ⟨rfl, N107q, H107⟩ := hQ107
 have N107 := Fr.app N101 N107q
 have hr109 : (jmin (Int32.ofNat zc) (Int32.ofNat n)) = (Int32.ofNat n) := own_jmin' hnz hz
 obtain ⟨T110, h110, L110, X110, e110, N110, K110, V110w, st110⟩ := cpA X107 hx hZ hown (tw hw 252 rfl) (tw hw 206 rfl) (tw hw 204 rfl) (tw hw 205 rfl) H107 (us := vs) C104 V103 (Or.inl ⟨rfl, rfl⟩) (by decide) (by decide) (own_nn (by omega)) (by rw [own_z0, own_nat (by omega), own_nat hz]; omega) (by rw [own_z0]; exact Nat.le_of_eq (Nat.zero_add _)) (own_cpy _ _ own_z0 (by rw [own_nat (by omega)]; exact hl)) (by rw [own_z0, own_nat (by omega), List.length_replicate]; omega) N107 (by omega : @LE.le Nat _ n0 b103) (g := (mkF m 27 #[vR a1, vI 0, vI (Int32.ofNat n), vI (Int32.ofNat n), vR b103] [(.int (Int32.ofNat n)), (.int 0), (.ref b103), (.int 0), (.ref a1)])) rfl (by rw [hml]; rfl) rfl (hb hby d41_27) (by decide) (W := 0) (wL _) (by decide)
 have V110 : Arv Z h110 b103 k103 .byte (Int32.ofNat n) vs (.int 0) := V110w.pad (own_padr _ _ own_z0)
 have sz2_K110 := K110.1
 have KC111 : Keep h0 h103 [] := (Keep.refl h0 []).trans K103 (all0)
 have KC112 : Keep h0 h110 [] := KC111.trans K110 (allS (Or.inr (by omega)) (all0))
 obtain ⟨fs, hr, hrun, hended, hW, hsame⟩ := X110.leave (v := some (.ref b103)) (nvr Bd.returns)
 refine ⟨_, _, pre0 _ ?_, hrun, hended, _, _, rfl, ?_, ⟨_, rfl⟩, hW, hsame.mono (by decide) (by decide)⟩
 ·skip
  show SS p e below s₁ m 0 #[vR a1, vI 0, vI (Int32.ofNat n), .unset, .unset] [] _
  refine XS.iloadN X0.here hx rfl (hb hby d41_0) rfl ?_
  refine XS.iloadN X0.here hx rfl (hb hby d41_1) rfl ?_
  show SS p e below s₁ m 2 #[vR a1, vI 0, vI (Int32.ofNat n), .unset, .unset] [(.int (Int32.ofNat n)), (.int 0)] _
  refine st101 _ ?_
  refine XS.iloadN X101.here hx rfl (hb hby d41_5) rfl ?_
  refine XS.iloadN X101.here hx rfl (hb hby d41_6) rfl ?_
  refine XS.isub X101.here hx rfl (hb hby d41_7) rfl ?_
  show SS p e below T101 m 8 #[vR a1, vI 0, vI (Int32.ofNat n), .unset, .unset] [(.int ((Int32.ofNat n) - (0 : Int32)))] _
  rw [hr102]
  refine XS.istoreN X101.here hx rfl (hb hby d41_8) rfl (l' := #[vR a1, vI 0, vI (Int32.ofNat n), vI (Int32.ofNat n), .unset]) rfl ?_
  refine XS.iloadN X101.here hx rfl (hb hby d41_9) rfl ?_
  show SS p e below T101 m 10 #[vR a1, vI 0, vI (Int32.ofNat n), vI (Int32.ofNat n), .unset] [(.int (Int32.ofNat n))] _
  refine st103 _ ?_
  refine XS.astore X103.here hx rfl (hb hby d41_12) rfl rfl (l' := #[vR a1, vI 0, vI (Int32.ofNat n), vI (Int32.ofNat n), vR b103]) rfl ?_
  refine XS.aloadN X103.here hx rfl (hb hby d41_14) rfl rfl ?_
  refine XS.iloadN X103.here hx rfl (hb hby d41_15) rfl ?_
  refine XS.aload X103.here hx rfl (hb hby d41_16) rfl rfl ?_
  refine XS.iconst X103.here hx rfl (hb hby d41_18) ?_
  refine XS.aloadN X103.here hx rfl (hb hby d41_19) rfl rfl ?_
  show SS p e below T103 m 20 #[vR a1, vI 0, vI (Int32.ofNat n), vI (Int32.ofNat n), vR b103] [(.ref a1), (.int 0), (.ref b103), (.int 0), (.ref a1)] _
  refine X103.arraylength hx (by rw [e103]; exact Ar105.1) (State.isArrayOf_alike hZ.alike Ar105.2.1) (g := (mkF m 20 #[vR a1, vI 0, vI (Int32.ofNat n), vI (Int32.ofNat n), vR b103] [(.ref a1), (.int 0), (.ref b103), (.int 0), (.ref a1)])) rfl rfl (hb hby d41_20) _ ?_
  rw [len_of S105 Nn105]
  refine XS.iloadN X103.here hx rfl (hb hby d41_21) rfl ?_
  refine XS.isub X103.here hx rfl (hb hby d41_22) rfl ?_
  show SS p e below T103 m 23 #[vR a1, vI 0, vI (Int32.ofNat n), vI (Int32.ofNat n), vR b103] [(.int ((Int32.ofNat zc) - (0 : Int32))), (.int 0), (.ref b103), (.int 0), (.ref a1)] _
  rw [hr106]
  refine XS.iloadN X103.here hx rfl (hb hby d41_23) rfl ?_
  show SS p e below T103 m 24 #[vR a1, vI 0, vI (Int32.ofNat n), vI (Int32.ofNat n), vR b103] [(.int (Int32.ofNat n)), (.int (Int32.ofNat zc)), (.int 0), (.ref b103), (.int 0), (.ref a1)] _
  refine st107 _ ?_
  show SS p e below T107 m 27 #[vR a1, vI 0, vI (Int32.ofNat n), vI (Int32.ofNat n), vR b103] [(.int (jmin (Int32.ofNat zc) (Int32.ofNat n))), (.int 0), (.ref b103), (.int 0), (.ref a1)] _
  rw [hr109]
  show SS p e below T107 m 27 #[vR a1, vI 0, vI (Int32.ofNat n), vI (Int32.ofNat n), vR b103] [(.int (Int32.ofNat n)), (.int 0), (.ref b103), (.int 0), (.ref a1)] _
  refine st110 _ ?_
  refine XS.aload X110.here hx rfl (hb hby d41_30) rfl rfl ?_
  show SS p e below T110 m 32 #[vR a1, vI 0, vI (Int32.ofNat n), vI (Int32.ofNat n), vR b103] [(.ref b103)] _
  exact X110.areturnOut hx rfl Bd.returns rfl (hb hby d41_32) hr
 ·show Q_rmCrb Z a1 n zc k1 vs h0 n0 _ T110.heap _
  rw [e110]
  exact ⟨_, _, rfl, N110, KC112, (by omega), V110⟩
theorem d40_0 : DK cD6 0 (.iload_n 1) 1 := by decide +kernel
theorem d40_1 : DK cD6 1 (.ifCond .ne 9) 3 := by decide +kernel
theorem d40_4 : DK cD6 4 (.iload_n 2) 1 := by decide +kernel
theorem d40_5 : DK cD6 5 (.aload_n 0) 1 := by decide +kernel
theorem d40_6 : DK cD6 6 (.arraylength) 1 := by decide +kernel
theorem d40_7 : DK cD6 7 (.if_icmp .eq 10) 3 := by decide +kernel
theorem d40_10 : DK cD6 10 (.aload_n 0) 1 := by decide +kernel
theorem d40_11 : DK cD6 11 (.iload_n 1) 1 := by decide +kernel
theorem d40_12 : DK cD6 12 (.iload_n 2) 1 := by decide +kernel
theorem d40_13 : DK cD6 13 (.invokestatic 339) 3 := by decide +kernel
theorem d40_16 : DK cD6 16 (.areturn) 1 := by decide +kernel
theorem pd_27 : parseMethodDescriptor "([BII)[B" = some ⟨[(.array .byte), .int, .int], some (.array .byte)⟩ := by decide +kernel
theorem ef_rmCr (m : MethodId) (y0 : Addr) (y1 : Int32) : entryFrame m #[(.ref y0), (.int 0), (.int y1)] 3 = (mkF m 0 #[vR y0, vI 0, vI y1] []) := by first | (simp [entryFrame, mkF, argsToLocals, Value.category]; done) | rfl
def Q_rmCr (Z : State) (a1 : Addr) (n zc : Nat) (k1 : ClassId) (vs : List Value) (h0 : Heap) (n0 : Nat) (v : Option Value) (h : Heap) (L : List Loc) : Prop := ∃ (t : Addr) (kb : ClassId), v = some (.ref t) ∧ Fr n0 L ∧ Keep h0 h [] ∧ h0.size ≤ t ∧ Arv Z h t kb .byte (Int32.ofNat n) vs (.int 0)
theorem rmCr (l : Launch) (Z : State) (a0 : Array Value) (hw : HW a0 Z) (ws : List Jvm.Cond) (a1 : Addr) (n zc : Nat) (k1 : ClassId) (vs : List Value) (h0 : Heap) (n0 : Nat) (O0 : Old Z n0 h0) (V1 : Arv Z h0 a1 k1 .byte (Int32.ofNat zc) vs (.int 0)) (hl : vs.length = n) (hnz : n < zc) (hn : n ≤ 16) (hz : zc < 2 ^ 31) :
  MF l mN6 jdk_65_method_132_code 3 (some (.array .byte)) ws (Rm 2 1 16 60) Z #[(.ref a1), (.int 0), (.int (Int32.ofNat n))] h0 (Q_rmCr Z a1 n zc k1 vs h0 n0) := by
 refine MetFree.of_bodySF (plainFor_of_name pn_40) hisR ?_
 intro p e s m args below meth c s₁ Bd hml0 hP hK
 obtain ⟨rfl, hZ, hh⟩ := hP
 have hx := Bd.exec
 have hby := Bd.bytes
 have hml : c.maxLocals = 3 := hml0
 have hown : s.vm.findClass "java/util/Arrays" = some m.cls := findClass_of_methodNamed Bd.named
 have X0 : Stand p l e (Rm 2 1 16 60) s m #[(.ref a1), (.int 0), (.int (Int32.ofNat n))] below meth c s₁ [] 0 0 := Stand.of_body Bd
 have e0 : s₁.heap = h0 := by rw [← hh, Bd.state]; rfl
 have N0 := Fr.nil n0
 have hn0 : n0 ≤ h0.size := O0.1 ▸ O0.2.1
 have pre0 : ∀ t, SS p e below s₁ m 0 #[vR a1, vI 0, vI (Int32.ofNat n)] [] t → SE p e below s₁ m #[(.ref a1), (.int 0), (.int (Int32.ofNat n))] 3 t := fun t k => castTop (ef_rmCr m a1 ((Int32.ofNat n))) k
 obtain ⟨cl101, Ar101, q101, S101, Nn101, H101, G101⟩ := id V1
 obtain ⟨_, _, ⟨T102, L102, k102, n102⟩, -, X102, ⟨Lc102, hQ102, l102, y102, z102⟩, st102⟩ := Jvm.LawKit.callS X0 hx (y := mN5) hown (mvT hZ (tw hw 242 rfl)) (mvT hZ (tw hw 243 rfl)) (mvT hZ (tw hw 240 rfl)) (mvT hZ (tw hw 244 rfl)) (by decide) (backOf (W := 0) (rmCrb l Z a0 hw [] a1 n zc k1 vs h0 n0 O0 V1 hl hnz hn hz) hZ (tw hw 244 rfl) (tw hw 240 rfl) (by decide) (by decide)) (g := (mkF m 13 #[vR a1, vI 0, vI (Int32.ofNat n)] [(.int (Int32.ofNat n)), (.int 0), (.ref a1)])) rfl (by rw [hml]; rfl) (argsL := [(.ref a1), (.int 0), (.int (Int32.ofNat n))]) (rest := []) (lenOf pd_27 rfl) rfl (wL _) (hb hby d40_13) (fun _ _ => ⟨rfl, e0, (by decide : 0 + 1 ≤ _), (by decide : 0 + 16 ≤ _)⟩)
 dsimp only [Pt.U, Pt.locs, Pt.cells, Pt.slots] at X102 l102 y102 z102 st102 hQ102
 rw [l102] at X102
 subst y102 z102
 obtain ⟨t102, kb102, rfl, N102q, K102, gt102, V102⟩ := hQ102
 have lt102 : @LT.lt Nat _ t102 T102.heap.size := V102.lt
 have sz1_K102 := K102.1
 have N102 := Fr.app N0 N102q
 have KC103 : Keep h0 T102.heap [] := (Keep.refl h0 []).trans K102 (all0)
 obtain ⟨fs, hr, hrun, hended, hW, hsame⟩ := X102.leave (v := some (.ref t102)) (nvr Bd.returns)
 refine ⟨_, _, pre0 _ ?_, hrun, hended, _, _, rfl, ?_, ⟨_, rfl⟩, hW, hsame.mono (by decide) (by decide)⟩
 ·skip
  show SS p e below s₁ m 0 #[vR a1, vI 0, vI (Int32.ofNat n)] [] _
  refine XS.iloadN X0.here hx rfl (hb hby d40_0) rfl ?_
  refine XS.ifNo X0.here hx rfl (hb hby d40_1) rfl ((if0 _ _).trans (teq (by decide : (0 : Int32) = (0 : Int32))).2) ?_
  refine XS.iloadN X0.here hx rfl (hb hby d40_4) rfl ?_
  refine XS.aloadN X0.here hx rfl (hb hby d40_5) rfl rfl ?_
  show SS p e below s₁ m 6 #[vR a1, vI 0, vI (Int32.ofNat n)] [(.ref a1), (.int (Int32.ofNat n))] _
  refine X0.arraylength hx (by rw [e0]; exact Ar101.1) (State.isArrayOf_alike hZ.alike Ar101.2.1) (g := (mkF m 6 #[vR a1, vI 0, vI (Int32.ofNat n)] [(.ref a1), (.int (Int32.ofNat n))])) rfl rfl (hb hby d40_6) _ ?_
  rw [len_of S101 Nn101]
  refine XS.icmpNo X0.here hx rfl (hb hby d40_7) rfl (feq (fun q => Nat.ne_of_lt hnz ((own_eqn (by omega) hz).mp q) : ¬ ((Int32.ofNat n) = (Int32.ofNat zc)))).1 ?_
  refine XS.aloadN X0.here hx rfl (hb hby d40_10) rfl rfl ?_
  refine XS.iloadN X0.here hx rfl (hb hby d40_11) rfl ?_
  refine XS.iloadN X0.here hx rfl (hb hby d40_12) rfl ?_
  show SS p e below s₁ m 13 #[vR a1, vI 0, vI (Int32.ofNat n)] [(.int (Int32.ofNat n)), (.int 0), (.ref a1)] _
  refine st102 _ ?_
  show SS p e below T102 m 16 #[vR a1, vI 0, vI (Int32.ofNat n)] [(.ref t102)] _
  exact X102.areturnOut hx rfl Bd.returns rfl (hb hby d40_16) hr
 ·show Q_rmCr Z a1 n zc k1 vs h0 n0 _ T102.heap _
  exact ⟨_, _, rfl, N102, KC103, (by omega), V102⟩
theorem d24_0 : DK cD7 0 (.aload_n 0) 1 := by decide +kernel
theorem d24_1 : DK cD7 1 (.invokespecial 3) 3 := by decide +kernel
theorem d24_4 : DK cD7 4 (.getstatic 18) 3 := by decide +kernel
theorem d24_7 : DK cD7 7 (.ifCond .eq 18) 3 := by decide +kernel
theorem d24_10 : DK cD7 10 (.aload_n 0) 1 := by decide +kernel
theorem d24_11 : DK cD7 11 (.iload_n 1) 1 := by decide +kernel
theorem d24_12 : DK cD7 12 (.newarray .byte) 2 := by decide +kernel
theorem d24_14 : DK cD7 14 (.putfield 15) 3 := by decide +kernel
theorem d24_17 : DK cD7 17 (.aload_n 0) 1 := by decide +kernel
theorem d24_18 : DK cD7 18 (.iconst 0) 1 := by decide +kernel
theorem d24_19 : DK cD7 19 (.putfield 22) 3 := by decide +kernel
theorem d24_22 : DK cD7 22 (.goto 16) 3 := by decide +kernel
theorem d24_38 : DK cD7 38 (.return_) 1 := by decide +kernel
theorem pn_24 : plainName "java/lang/AbstractStringBuilder" = true := by first | (simp [plainName, overriddenIn]; done) | decide +kernel
theorem ef_rmI16 (m : MethodId) (y0 : Addr) : entryFrame m #[(.ref y0), (.int 16)] 2 = (mkF m 0 #[vR y0, vI 16] []) := by first | (simp [entryFrame, mkF, argsToLocals, Value.category]; done) | rfl
def Q_rmI16 (Z : State) (a1 : Addr) (cs0 : Int32) (h0 : Heap) (n0 : Nat) (v : Option Value) (h : Heap) (L : List Loc) : Prop := ∃ (v1 : Addr) (kv : ClassId), v = none ∧ Fr n0 L ∧ Keep h0 h [a1] ∧ h0.size ≤ v1 ∧ Exa Z h a1 "java/lang/StringBuilder" ∧ Fld Z h a1 "java/lang/AbstractStringBuilder" "value" "[B" (.ref v1) ∧ Fld Z h a1 "java/lang/AbstractStringBuilder" "coder" "B" (.int 0) ∧ Fld Z h a1 "java/lang/AbstractStringBuilder" "count" "I" (.int (Int32.ofNat ([] : List Int32).length)) ∧ Arv Z h v1 kv .byte (Int32.ofNat 16) (([] : List Int32).map Value.int) (.int 0)
theorem rmI16 (l : Launch) (Z : State) (a0 : Array Value) (hw : HW a0 Z) (ws : List Jvm.Cond) (a1 : Addr) (cs0 : Int32) (h0 : Heap) (n0 : Nat) (O0 : Old Z n0 h0) (S_CS : SCS Z cs0) (c_CS : ¬ (cs0 = (0 : Int32))) (g1 : n0 ≤ a1) (Eb : Exa Z h0 a1 "java/lang/StringBuilder") (Bv : Fld Z h0 a1 "java/lang/AbstractStringBuilder" "value" "[B" .null) (Bc : Fld Z h0 a1 "java/lang/AbstractStringBuilder" "coder" "B" (.int 0)) (Bn : Fld Z h0 a1 "java/lang/AbstractStringBuilder" "count" "I" (.int 0)) :
  MF l mN7 jdk_68_method_2_code 2 none ws (Rm 1 1 16 12) Z #[(.ref a1), (.int 16)] h0 (Q_rmI16 Z a1 cs0 h0 n0) := by
 refine MetFree.of_bodySF (plainFor_of_name pn_24) hisR ?_
 intro p e s m args below meth c s₁ Bd hml0 hP hK
 obtain ⟨rfl, hZ, hh⟩ := hP
 have hx := Bd.exec
 have hby := Bd.bytes
 have hml : c.maxLocals = 2 := hml0
 have hown : s.vm.findClass "java/lang/AbstractStringBuilder" = some m.cls := findClass_of_methodNamed Bd.named
 have X0 : Stand p l e (Rm 1 1 16 12) s m #[(.ref a1), (.int 16)] below meth c s₁ [] 0 0 := Stand.of_body Bd
 have e0 : s₁.heap = h0 := by rw [← hh, Bd.state]; rfl
 have N0 := Fr.nil n0
 have hn0 : n0 ≤ h0.size := O0.1 ▸ O0.2.1
 have pre0 : ∀ t, SS p e below s₁ m 0 #[vR a1, vI 16] [] t → SE p e below s₁ m #[(.ref a1), (.int 16)] 2 t := fun t k => castTop (ef_rmI16 m a1) k
 have lt_a1 : @LT.lt Nat _ a1 h0.size := Eb.lt
 obtain ⟨T101, X101, e101, st101⟩ := initO X0 hx hZ hown (tw hw 153 rfl) (tw hw 12 rfl) (tw hw 13 rfl) e0 (g := (mkF m 1 #[vR a1, vI 16] [(.ref a1)])) rfl (by rw [hml]; rfl) rfl (hb hby d24_1) (by decide) (W := 0) (wL _) (by decide)
 obtain ⟨T102, X102, e102, st102⟩ := getS2 X101 hx hZ hown (host := "") (Or.inl (tw hw 154 rfl)) Via.refl e101 (Sta.ext O0.2 S_CS) (g := (mkF m 4 #[vR a1, vI 16] [])) rfl (hb hby d24_4)
 obtain ⟨T103, h103, k103, X103, e103, E103, A103, st103⟩ := newP X102 hx hZ (tw hw 19 rfl) e102 (g := (mkF m 12 #[vR a1, vI 16] [(.int 16), (.ref a1)])) rfl (hb hby d24_12) rfl (by decide) (cap := 16) (by decide) (by decide) (by decide) (by decide)
 obtain ⟨b103, g103⟩ : ∃ z, z = h0.size := ⟨_, rfl⟩
 rw [← g103] at A103 st103
 have V103 : Arv Z h103 b103 k103 .byte (16 : Int32) [(.int 0), (.int 0), (.int 0), (.int 0), (.int 0), (.int 0), (.int 0), (.int 0), (.int 0), (.int 0), (.int 0), (.int 0), (.int 0), (.int 0), (.int 0), (.int 0)] (.int 0) := (Arv.new A103 (by decide)).pad (pad_rep [] (.int 0) 16)
 have lt103 : @LT.lt Nat _ b103 h103.size := V103.lt
 have K103 : Keep h0 h103 [] := (Keep.refl _ _).ext E103
 have sz1_K103 := K103.1
 have C104 := Eb.keep K103
 have C105 := Bv.keep K103 nin0
 obtain ⟨T106, h106, X106, e106, W106, st106⟩ := putF X103 hx hZ hown (host := "") (Or.inl (tw hw 155 rfl)) Via.refl e103 C105 C104 (Or.inl (tw hw 156 rfl)) (tw hw 142 rfl) (ty := (.array .byte)) (by decide) rfl rfl (g := (mkF m 14 #[vR a1, vI 16] [(.ref b103), (.ref a1)])) rfl rfl (hb hby d24_14)
 have K106 := Keep.of_wr W106
 have Fw106 := Fld.same W106 C105
 have N106 := Fr.snoc X106 N0 (by omega : @LE.le Nat _ n0 a1)
 have sz2_K106 := K106.1
 have C107 := C104.keep K106
 have C108 := Bc.keep K103 nin0
 have C109 := Fld.other W106 C108 (Or.inr (slot_ne (Or.inl (tw hw 158 rfl)) (Or.inl (tw hw 156 rfl)) (by decide) (t := .byte) (t' := (.array .byte)) (by decide) (by decide)))
 obtain ⟨T110, h110, X110, e110, W110, st110⟩ := putFN X106 hx hZ hown (tw hw 157 rfl) Via.refl e106 C109 C107 (Or.inl (tw hw 158 rfl)) (tw hw 142 rfl) (ty := .byte) (v' := (.int 0)) (by decide) rfl rfl (g := (mkF m 19 #[vR a1, vI 16] [(.int 0), (.ref a1)])) rfl rfl (hb hby d24_19)
 have K110 := Keep.of_wr W110
 have Fw110 := Fld.same W110 C109
 have N110 := Fr.snoc X110 N106 (by omega : @LE.le Nat _ n0 a1)
 have sz3_K110 := K110.1
 have C111 := C107.keep K110
 have C112 := Fld.other W110 Fw106 (Or.inr (slot_ne (Or.inl (tw hw 156 rfl)) (Or.inl (tw hw 158 rfl)) (by decide) (t := (.array .byte)) (t' := .byte) (by decide) (by decide)))
 have C113 := Bn.keep K103 nin0
 have C114 := Fld.other W106 C113 (Or.inr (slot_ne (Or.inl (tw hw 181 rfl)) (Or.inl (tw hw 156 rfl)) (by decide) (t := .int) (t' := (.array .byte)) (by decide) (by decide)))
 have C115 := Fld.other W110 C114 (Or.inr (slot_ne (Or.inl (tw hw 181 rfl)) (Or.inl (tw hw 158 rfl)) (by decide) (t := .int) (t' := .byte) (by decide) (by decide)))
 have KD116 : Keep h103 h110 [a1] := ((Keep.refl _ _).trans K106 (allS (Or.inl (List.mem_of_getElem? (i := 0) rfl)) (all0))).trans K110 (allS (Or.inl (List.mem_of_getElem? (i := 0) rfl)) (all0))
 have C117 := V103.keep KD116 (ninS (by omega : @Ne Nat b103 a1) (nin0))
 have KC118 : Keep h0 h103 [a1] := (Keep.refl h0 [a1]).trans K103 (all0)
 have KC119 : Keep h0 h106 [a1] := KC118.trans K106 (allS (Or.inl (List.mem_of_getElem? (i := 0) rfl)) (all0))
 have KC120 : Keep h0 h110 [a1] := KC119.trans K110 (allS (Or.inl (List.mem_of_getElem? (i := 0) rfl)) (all0))
 obtain ⟨fs, hr, hrun, hended, hW, hsame⟩ := X110.leave (v := none) (fun _ => rfl)
 refine ⟨_, _, pre0 _ ?_, hrun, hended, _, _, rfl, ?_, ⟨_, rfl⟩, hW, hsame.mono (by decide) (by decide)⟩
 ·skip
  show SS p e below s₁ m 0 #[vR a1, vI 16] [] _
  refine XS.aloadN X0.here hx rfl (hb hby d24_0) rfl rfl ?_
  show SS p e below s₁ m 1 #[vR a1, vI 16] [(.ref a1)] _
  refine st101 _ ?_
  show SS p e below T101 m 4 #[vR a1, vI 16] [] _
  refine st102 _ ?_
  refine XS.ifNo X102.here hx rfl (hb hby d24_7) rfl ((if0 _ _).trans (feq (c_CS : ¬ (cs0 = (0 : Int32)))).1) ?_
  refine XS.aloadN X102.here hx rfl (hb hby d24_10) rfl rfl ?_
  refine XS.iloadN X102.here hx rfl (hb hby d24_11) rfl ?_
  show SS p e below T102 m 12 #[vR a1, vI 16] [(.int 16), (.ref a1)] _
  refine st103 _ ?_
  show SS p e below T103 m 14 #[vR a1, vI 16] [(.ref b103), (.ref a1)] _
  refine st106 _ ?_
  refine XS.aloadN X106.here hx rfl (hb hby d24_17) rfl rfl ?_
  refine XS.iconst X106.here hx rfl (hb hby d24_18) ?_
  show SS p e below T106 m 19 #[vR a1, vI 16] [(.int 0), (.ref a1)] _
  refine st110 _ ?_
  refine XS.goto X110.here hx rfl (pc0 := 22) (pc' := 38) rfl (hb hby d24_22) (by decide) (by decide) ?_
  show SS p e below T110 m 38 #[vR a1, vI 16] [] _
  exact X110.returnOut hx Bd.returns (hb hby d24_38) hr
 ·show Q_rmI16 Z a1 cs0 h0 n0 _ T110.heap _
  rw [e110]
  exact ⟨_, _, rfl, N110, KC120, (by omega), C111, C112, Fw110, C115, (C117.pad (fun i => (pad_rep [] (.int 0) 16 i).symm))⟩
theorem d23_0 : DK cD8 0 (.aload_n 0) 1 := by decide +kernel
theorem d23_1 : DK cD8 1 (.bipush 16) 2 := by decide +kernel
theorem d23_3 : DK cD8 3 (.invokespecial 1) 3 := by decide +kernel
theorem d23_6 : DK cD8 6 (.return_) 1 := by decide +kernel
theorem pn_23 : plainName "java/lang/StringBuilder" = true := by first | (simp [plainName, overriddenIn]; done) | decide +kernel
theorem pd_15 : parseMethodDescriptor "(I)V" = some ⟨[.int], none⟩ := by decide +kernel
theorem ef_rmSi (m : MethodId) (y0 : Addr) : entryFrame m #[(.ref y0)] 1 = (mkF m 0 #[vR y0] []) := by first | (simp [entryFrame, mkF, argsToLocals, Value.category]; done) | rfl
def Q_rmSi (Z : State) (a1 : Addr) (cs0 : Int32) (h0 : Heap) (n0 : Nat) (v : Option Value) (h : Heap) (L : List Loc) : Prop := ∃ (v1 : Addr) (kv : ClassId), v = none ∧ Fr n0 L ∧ Keep h0 h [a1] ∧ h0.size ≤ v1 ∧ Exa Z h a1 "java/lang/StringBuilder" ∧ Fld Z h a1 "java/lang/AbstractStringBuilder" "value" "[B" (.ref v1) ∧ Fld Z h a1 "java/lang/AbstractStringBuilder" "coder" "B" (.int 0) ∧ Fld Z h a1 "java/lang/AbstractStringBuilder" "count" "I" (.int (Int32.ofNat ([] : List Int32).length)) ∧ Arv Z h v1 kv .byte (Int32.ofNat 16) (([] : List Int32).map Value.int) (.int 0)
theorem rmSi (l : Launch) (Z : State) (a0 : Array Value) (hw : HW a0 Z) (ws : List Jvm.Cond) (a1 : Addr) (cs0 : Int32) (h0 : Heap) (n0 : Nat) (O0 : Old Z n0 h0) (S_CS : SCS Z cs0) (c_CS : ¬ (cs0 = (0 : Int32))) (g1 : n0 ≤ a1) (Eb : Exa Z h0 a1 "java/lang/StringBuilder") (Bv : Fld Z h0 a1 "java/lang/AbstractStringBuilder" "value" "[B" .null) (Bc : Fld Z h0 a1 "java/lang/AbstractStringBuilder" "coder" "B" (.int 0)) (Bn : Fld Z h0 a1 "java/lang/AbstractStringBuilder" "count" "I" (.int 0)) :
  MF l mN8 jdk_67_method_1_code 1 none ws (Rm 2 1 16 30) Z #[(.ref a1)] h0 (Q_rmSi Z a1 cs0 h0 n0) := by
 refine MetFree.of_bodySF (plainFor_of_name pn_23) hisR ?_
 intro p e s m args below meth c s₁ Bd hml0 hP hK
 obtain ⟨rfl, hZ, hh⟩ := hP
 have hx := Bd.exec
 have hby := Bd.bytes
 have hml : c.maxLocals = 1 := hml0
 have hown : s.vm.findClass "java/lang/StringBuilder" = some m.cls := findClass_of_methodNamed Bd.named
 have X0 : Stand p l e (Rm 2 1 16 30) s m #[(.ref a1)] below meth c s₁ [] 0 0 := Stand.of_body Bd
 have e0 : s₁.heap = h0 := by rw [← hh, Bd.state]; rfl
 have N0 := Fr.nil n0
 have hn0 : n0 ≤ h0.size := O0.1 ▸ O0.2.1
 have pre0 : ∀ t, SS p e below s₁ m 0 #[vR a1] [] t → SE p e below s₁ m #[(.ref a1)] 1 t := fun t k => castTop (ef_rmSi m a1) k
 have lt_a1 : @LT.lt Nat _ a1 h0.size := Eb.lt
 obtain ⟨_, _, ⟨T101, L101, k101, n101⟩, -, X101, ⟨Lc101, hQ101, l101, y101, z101⟩, st101⟩ := X0.specialBack hx (y := mN7) rfl hown (mvT hZ (tw hw 147 rfl)) (mvT hZ (tw hw 148 rfl)) (mvT hZ (tw hw 152 rfl)) (by decide) (backOf (W := 0) (rmI16 l Z a0 hw [] a1 cs0 h0 n0 O0 S_CS c_CS (by omega : @LE.le Nat _ n0 a1) Eb Bv Bc Bn) hZ (tw hw 152 rfl) (tw hw 151 rfl) (by decide) (by decide)) (g := (mkF m 3 #[vR a1] [(.int 16), (.ref a1)])) rfl (by rw [hml]; rfl) (Steps.refl _) (a := a1) (argsL := [(.int 16)]) (rest := []) (lenOf pd_15 rfl) rfl (wL _) (hb hby d23_3) (fun _ _ => ⟨rfl, e0, (by decide : 0 + 1 ≤ _), (by decide : 0 + 16 ≤ _)⟩)
 dsimp only [Pt.U, Pt.locs, Pt.cells, Pt.slots] at X101 l101 y101 z101 st101 hQ101
 rw [l101] at X101
 subst y101 z101
 obtain ⟨v101, kv101, rfl, N101q, K101, gv101, Eb101, Bv101, Bc101, Bn101, Vb101⟩ := hQ101
 have ltv101 : @LT.lt Nat _ v101 T101.heap.size := Vb101.lt
 have sz1_K101 := K101.1
 have N101 := Fr.app N0 N101q
 have KC102 : Keep h0 T101.heap [a1] := (Keep.refl h0 [a1]).trans K101 (allS (Or.inl (List.mem_of_getElem? (i := 0) rfl)) (all0))
 obtain ⟨fs, hr, hrun, hended, hW, hsame⟩ := X101.leave (v := none) (fun _ => rfl)
 refine ⟨_, _, pre0 _ ?_, hrun, hended, _, _, rfl, ?_, ⟨_, rfl⟩, hW, hsame.mono (by decide) (by decide)⟩
 ·skip
  show SS p e below s₁ m 0 #[vR a1] [] _
  refine XS.aloadN X0.here hx rfl (hb hby d23_0) rfl rfl ?_
  refine XS.bipush X0.here hx rfl (hb hby d23_1) ?_
  show SS p e below s₁ m 3 #[vR a1] [(.int 16), (.ref a1)] _
  refine st101.trans ?_
  show SS p e below T101 m 6 #[vR a1] [] _
  exact X101.returnOut hx Bd.returns (hb hby d23_6) hr
 ·show Q_rmSi Z a1 cs0 h0 n0 _ T101.heap _
  exact ⟨_, _, rfl, N101, KC102, (by omega), Eb101, Bv101, Bc101, Bn101, Vb101⟩
theorem d32_0 : DK cD9 0 (.aload_n 0) 1 := by decide +kernel
theorem d32_1 : DK cD9 1 (.invokevirtual 335) 3 := by decide +kernel
theorem d32_4 : DK cD9 4 (.iload_n 3) 1 := by decide +kernel
theorem d32_5 : DK cD9 5 (.if_icmp .ne 23) 3 := by decide +kernel
theorem d32_8 : DK cD9 8 (.aload_n 0) 1 := by decide +kernel
theorem d32_9 : DK cD9 9 (.getfield 9) 3 := by decide +kernel
theorem d32_12 : DK cD9 12 (.iconst 0) 1 := by decide +kernel
theorem d32_13 : DK cD9 13 (.aload_n 1) 1 := by decide +kernel
theorem d32_14 : DK cD9 14 (.iload_n 2) 1 := by decide +kernel
theorem d32_15 : DK cD9 15 (.iload_n 3) 1 := by decide +kernel
theorem d32_16 : DK cD9 16 (.ishl) 1 := by decide +kernel
theorem d32_17 : DK cD9 17 (.aload_n 0) 1 := by decide +kernel
theorem d32_18 : DK cD9 18 (.getfield 9) 3 := by decide +kernel
theorem d32_21 : DK cD9 21 (.arraylength) 1 := by decide +kernel
theorem d32_22 : DK cD9 22 (.invokestatic 212) 3 := by decide +kernel
theorem d32_25 : DK cD9 25 (.goto 18) 3 := by decide +kernel
theorem d32_43 : DK cD9 43 (.return_) 1 := by decide +kernel
theorem ef_rmGb (m : MethodId) (y0 : Addr) (y1 : Addr) (y2 : Int32) : entryFrame m #[(.ref y0), (.ref y1), (.int y2), (.int 0)] 4 = (mkF m 0 #[vR y0, vR y1, vI y2, vI 0] []) := by first | (simp [entryFrame, mkF, argsToLocals, Value.category]; done) | rfl
def Q_rmGb (Z : State) (a1 : Addr) (a2 : Addr) (bs ts : List Int32) (cs0 : Int32) (t1 : Addr) (k1 kd : ClassId) (h0 : Heap) (n0 : Nat) (v : Option Value) (h : Heap) (L : List Loc) : Prop := v = none ∧ Fr n0 L ∧ Keep h0 h [a2] ∧ Arv Z h a2 kd .byte (Int32.ofNat 16) ((bs ++ ts).map Value.int) (.int 0)
theorem rmGb (l : Launch) (Z : State) (a0 : Array Value) (hw : HW a0 Z) (ws : List Jvm.Cond) (a1 : Addr) (a2 : Addr) (bs ts : List Int32) (cs0 : Int32) (t1 : Addr) (k1 kd : ClassId) (h0 : Heap) (n0 : Nat) (O0 : Old Z n0 h0) (S_CS : SCS Z cs0) (c_CS : ¬ (cs0 = (0 : Int32))) (Es1 : Exa Z h0 a1 "java/lang/String") (Sv1 : Fld Z h0 a1 "java/lang/String" "value" "[B" (.ref t1)) (Sc1 : Fld Z h0 a1 "java/lang/String" "coder" "B" (.int 0)) (Vs1 : Arv Z h0 t1 k1 .byte (Int32.ofNat ts.length) (ts.map Value.int) (.int 0)) (hbb : bs.length + ts.length ≤ 16) (gd : n0 ≤ a2) (Vd : Arv Z h0 a2 kd .byte (Int32.ofNat 16) (bs.map Value.int) (.int 0)) (ne : @Ne Nat t1 a2) :
  MF l mN9 jdk_42_method_147_code 4 none ws (Rm 1 0 0 60) Z #[(.ref a1), (.ref a2), (.int (Int32.ofNat bs.length)), (.int 0)] h0 (Q_rmGb Z a1 a2 bs ts cs0 t1 k1 kd h0 n0) := by
 refine MetFree.of_bodySF (plainFor_of_name pn_1) hisR ?_
 intro p e s m args below meth c s₁ Bd hml0 hP hK
 obtain ⟨rfl, hZ, hh⟩ := hP
 have hx := Bd.exec
 have hby := Bd.bytes
 have hml : c.maxLocals = 4 := hml0
 have hown : s.vm.findClass "java/lang/String" = some m.cls := findClass_of_methodNamed Bd.named
 have X0 : Stand p l e (Rm 1 0 0 60) s m #[(.ref a1), (.ref a2), (.int (Int32.ofNat bs.length)), (.int 0)] below meth c s₁ [] 0 0 := Stand.of_body Bd
 have e0 : s₁.heap = h0 := by rw [← hh, Bd.state]; rfl
 have N0 := Fr.nil n0
 have hn0 : n0 ≤ h0.size := O0.1 ▸ O0.2.1
 have pre0 : ∀ t, SS p e below s₁ m 0 #[vR a1, vR a2, vI (Int32.ofNat bs.length), vI 0] [] t → SE p e below s₁ m #[(.ref a1), (.ref a2), (.int (Int32.ofNat bs.length)), (.int 0)] 4 t := fun t k => castTop (ef_rmGb m a1 a2 ((Int32.ofNat bs.length))) k
 have lt_a2 : @LT.lt Nat _ a2 h0.size := Vd.lt
 obtain ⟨cq101, kq101, q101a, q101b, q101c⟩ := isOf hZ e0 Es1
 obtain ⟨_, _, ⟨T101, L101, k101, n101⟩, -, X101, ⟨Lc101, hQ101, l101, y101, z101⟩, st101⟩ := X0.virtualBack hx (y := mN0) (z := mN0) hown (mvT hZ (tw hw 175 rfl)) (mvT hZ (tw hw 176 rfl)) (notFace_of_selects (args := #[]) (mvT hZ (tw hw 178 rfl))) (mvT hZ (tw hw 178 rfl)) (mvT hZ (tw hw 177 rfl)) (by decide) (backOf (W := 0) (rmCoderL l Z a0 hw [] a1 ts t1 k1 cs0 h0 n0 O0 S_CS c_CS Es1 Sv1 Sc1 Vs1 (by omega)) hZ (tw hw 179 rfl) (tw hw 2 rfl) (by decide) (by decide)) q101a q101c (g := (mkF m 1 #[vR a1, vR a2, vI (Int32.ofNat bs.length), vI 0] [(.ref a1)])) rfl (by rw [hml]; rfl) (Steps.refl _) (argsL := []) (rest := []) (lenOf pd_18 rfl) rfl (wL _) (hb hby d32_1) (fun _ _ => ⟨rfl, e0, (by decide : 0 + 0 ≤ _), (by decide : 0 + 0 ≤ _)⟩)
 dsimp only [Pt.U, Pt.locs, Pt.cells, Pt.slots] at X101 l101 y101 z101 st101 hQ101
 rw [l101] at X101
 subst y101 z101
 obtain ⟨rfl, N101q, H101⟩ := hQ101
 have N101 := Fr.app N0 N101q
 obtain ⟨T102, X102, e102, st102⟩ := getF X101 hx hZ hown (host := "") (Or.inl (tw hw 28 rfl)) Via.refl H101 Sv1 (g := (mkF m 9 #[vR a1, vR a2, vI (Int32.ofNat bs.length), vI 0] [(.ref a1)])) rfl rfl (hb hby d32_9)
 obtain ⟨T103, X103, e103, st103⟩ := getF X102 hx hZ hown (host := "") (Or.inl (tw hw 28 rfl)) Via.refl e102 Sv1 (g := (mkF m 18 #[vR a1, vR a2, vI (Int32.ofNat bs.length), vI 0] [(.ref a1), (.int ((Int32.ofNat bs.length) <<< ((0 : Int32) &&& 31))), (.ref a2), (.int 0), (.ref t1)])) rfl rfl (hb hby d32_18)
 obtain ⟨cl104, Ar104, q104, S104, Nn104, H104, G104⟩ := id Vs1
 have hr105 : ((Int32.ofNat bs.length) <<< ((0 : Int32) &&& 31)) = (Int32.ofNat bs.length) := own_shl0 _
 have Vp := Vd.pad (own_padl bs)
 obtain ⟨T106, h106, L106, X106, e106, N106, K106, V106w, st106⟩ := cpA X103 hx hZ hown (tw hw 203 rfl) (tw hw 206 rfl) (tw hw 204 rfl) (tw hw 205 rfl) e103 (us := (ts.map Value.int)) Vs1 Vp (Or.inl ⟨rfl, rfl⟩) (by decide) (own_nn (by omega)) (own_nn (by omega)) (by rw [own_z0]; exact Nat.le_of_eq (Nat.zero_add _)) (by rw [own_nat (by omega), own_nat (by omega), own_nat (by omega)]; omega) (own_cpy _ _ own_z0 (by rw [own_nat (by omega)]; exact List.length_map ..)) (by rw [own_nat (by omega), own_nat (by omega), List.length_append, List.length_map, List.length_replicate]; omega) N101 (by omega : @LE.le Nat _ n0 a2) (g := (mkF m 22 #[vR a1, vR a2, vI (Int32.ofNat bs.length), vI 0] [(.int (Int32.ofNat ts.length)), (.int (Int32.ofNat bs.length)), (.ref a2), (.int 0), (.ref t1)])) rfl (by rw [hml]; rfl) rfl (hb hby d32_22) (by decide) (W := 0) (wL _) (by decide)
 have V106 : Arv Z h106 a2 kd .byte (Int32.ofNat 16) ((bs ++ ts).map Value.int) (.int 0) := V106w.pad (own_apd (j := (Int32.ofNat bs.length).toNatClampNeg) (k := (Int32.ofNat bs.length).toNatClampNeg + (Int32.ofNat ts.length).toNatClampNeg) (m := 16 - bs.length) bs ts _ (own_nat (by omega)) (by rw [own_nat (by omega), own_nat (by omega)]))
 have sz1_K106 := K106.1
 have KC107 : Keep h0 h106 [a2] := (Keep.refl h0 [a2]).trans K106 (allS (Or.inl (List.mem_of_getElem? (i := 0) rfl)) (all0))
 obtain ⟨fs, hr, hrun, hended, hW, hsame⟩ := X106.leave (v := none) (fun _ => rfl)
 refine ⟨_, _, pre0 _ ?_, hrun, hended, _, _, rfl, ?_, ⟨_, rfl⟩, hW, hsame.mono (by decide) (by decide)⟩
 ·skip
  show SS p e below s₁ m 0 #[vR a1, vR a2, vI (Int32.ofNat bs.length), vI 0] [] _
  refine XS.aloadN X0.here hx rfl (hb hby d32_0) rfl rfl ?_
  show SS p e below s₁ m 1 #[vR a1, vR a2, vI (Int32.ofNat bs.length), vI 0] [(.ref a1)] _
  refine st101.trans ?_
  refine XS.iloadN X101.here hx rfl (hb hby d32_4) rfl ?_
  refine XS.icmpNo X101.here hx rfl (hb hby d32_5) rfl (teq (by decide : (0 : Int32) = (0 : Int32))).2 ?_
  refine XS.aloadN X101.here hx rfl (hb hby d32_8) rfl rfl ?_
  show SS p e below T101 m 9 #[vR a1, vR a2, vI (Int32.ofNat bs.length), vI 0] [(.ref a1)] _
  refine st102 _ ?_
  refine XS.iconst X102.here hx rfl (hb hby d32_12) ?_
  refine XS.aloadN X102.here hx rfl (hb hby d32_13) rfl rfl ?_
  refine XS.iloadN X102.here hx rfl (hb hby d32_14) rfl ?_
  refine XS.iloadN X102.here hx rfl (hb hby d32_15) rfl ?_
  show SS p e below T102 m 16 #[vR a1, vR a2, vI (Int32.ofNat bs.length), vI 0] [(.int 0), (.int (Int32.ofNat bs.length)), (.ref a2), (.int 0), (.ref t1)] _
  refine XS.ishl X102.here hx rfl (hb hby d32_16) rfl ?_
  refine XS.aloadN X102.here hx rfl (hb hby d32_17) rfl rfl ?_
  show SS p e below T102 m 18 #[vR a1, vR a2, vI (Int32.ofNat bs.length), vI 0] [(.ref a1), (.int ((Int32.ofNat bs.length) <<< ((0 : Int32) &&& 31))), (.ref a2), (.int 0), (.ref t1)] _
  refine st103 _ ?_
  show SS p e below T103 m 21 #[vR a1, vR a2, vI (Int32.ofNat bs.length), vI 0] [(.ref t1), (.int ((Int32.ofNat bs.length) <<< ((0 : Int32) &&& 31))), (.ref a2), (.int 0), (.ref t1)] _
  refine X103.arraylength hx (by rw [e103]; exact Ar104.1) (State.isArrayOf_alike hZ.alike Ar104.2.1) (g := (mkF m 21 #[vR a1, vR a2, vI (Int32.ofNat bs.length), vI 0] [(.ref t1), (.int ((Int32.ofNat bs.length) <<< ((0 : Int32) &&& 31))), (.ref a2), (.int 0), (.ref t1)])) rfl rfl (hb hby d32_21) _ ?_
  rw [len_of S104 Nn104]
  show SS p e below T103 m 22 #[vR a1, vR a2, vI (Int32.ofNat bs.length), vI 0] [(.int (Int32.ofNat ts.length)), (.int ((Int32.ofNat bs.length) <<< ((0 : Int32) &&& 31))), (.ref a2), (.int 0), (.ref t1)] _
  rw [hr105]
  show SS p e below T103 m 22 #[vR a1, vR a2, vI (Int32.ofNat bs.length), vI 0] [(.int (Int32.ofNat ts.length)), (.int (Int32.ofNat bs.length)), (.ref a2), (.int 0), (.ref t1)] _
  refine st106 _ ?_
  refine XS.goto X106.here hx rfl (pc0 := 25) (pc' := 43) rfl (hb hby d32_25) (by decide) (by decide) ?_
  show SS p e below T106 m 43 #[vR a1, vR a2, vI (Int32.ofNat bs.length), vI 0] [] _
  exact X106.returnOut hx Bd.returns (hb hby d32_43) hr
 ·show Q_rmGb Z a1 a2 bs ts cs0 t1 k1 kd h0 n0 _ T106.heap _
  rw [e106]
  exact ⟨rfl, N106, KC107, V106⟩
theorem d31_0 : DK cD10 0 (.getstatic 18) 3 := by decide +kernel
theorem d31_3 : DK cD10 3 (.ifCond .eq 18) 3 := by decide +kernel
theorem d31_6 : DK cD10 6 (.aload_n 0) 1 := by decide +kernel
theorem d31_7 : DK cD10 7 (.getfield 22) 3 := by decide +kernel
theorem d31_10 : DK cD10 10 (.aload_n 1) 1 := by decide +kernel
theorem d31_11 : DK cD10 11 (.invokevirtual 40) 3 := by decide +kernel
theorem d31_14 : DK cD10 14 (.if_icmp .eq 7) 3 := by decide +kernel
theorem d31_21 : DK cD10 21 (.return_) 1 := by decide +kernel
theorem ef_rmInf (m : MethodId) (y0 : Addr) (y1 : Addr) : entryFrame m #[(.ref y0), (.ref y1)] 2 = (mkF m 0 #[vR y0, vR y1] []) := by first | (simp [entryFrame, mkF, argsToLocals, Value.category]; done) | rfl
def Q_rmInf (Z : State) (a1 : Addr) (a2 : Addr) (bs ts : List Int32) (cs0 : Int32) (t2 v1 : Addr) (k2 kv : ClassId) (h0 : Heap) (n0 : Nat) (v : Option Value) (h : Heap) (L : List Loc) : Prop := v = none ∧ Fr n0 L ∧ h = h0
theorem rmInf (l : Launch) (Z : State) (a0 : Array Value) (hw : HW a0 Z) (ws : List Jvm.Cond) (a1 : Addr) (a2 : Addr) (bs ts : List Int32) (cs0 : Int32) (t2 v1 : Addr) (k2 kv : ClassId) (h0 : Heap) (n0 : Nat) (O0 : Old Z n0 h0) (S_CS : SCS Z cs0) (c_CS : ¬ (cs0 = (0 : Int32))) (Es2 : Exa Z h0 a2 "java/lang/String") (Sv2 : Fld Z h0 a2 "java/lang/String" "value" "[B" (.ref t2)) (Sc2 : Fld Z h0 a2 "java/lang/String" "coder" "B" (.int 0)) (Vs2 : Arv Z h0 t2 k2 .byte (Int32.ofNat ts.length) (ts.map Value.int) (.int 0)) (hbb : bs.length + ts.length ≤ 16) (Eb : Exa Z h0 a1 "java/lang/StringBuilder") (Bv : Fld Z h0 a1 "java/lang/AbstractStringBuilder" "value" "[B" (.ref v1)) (Bc : Fld Z h0 a1 "java/lang/AbstractStringBuilder" "coder" "B" (.int 0)) (Bn : Fld Z h0 a1 "java/lang/AbstractStringBuilder" "count" "I" (.int (Int32.ofNat bs.length))) (Vb : Arv Z h0 v1 kv .byte (Int32.ofNat 16) (bs.map Value.int) (.int 0)) (g1 : n0 ≤ a1) (gv : n0 ≤ v1) (nv1 : @Ne Nat v1 a1) (nv2 : @Ne Nat v1 a2) (nv3 : @Ne Nat v1 t2) (na2 : @Ne Nat a1 a2) (na3 : @Ne Nat a1 t2) :
  MF l mN10 jdk_68_method_71_code 2 none ws (Rm 1 0 0 20) Z #[(.ref a1), (.ref a2)] h0 (Q_rmInf Z a1 a2 bs ts cs0 t2 v1 k2 kv h0 n0) := by
 refine MetFree.of_bodySF (plainFor_of_name pn_24) hisR ?_
 intro p e s m args below meth c s₁ Bd hml0 hP hK
 obtain ⟨rfl, hZ, hh⟩ := hP
 have hx := Bd.exec
 have hby := Bd.bytes
 have hml : c.maxLocals = 2 := hml0
 have hown : s.vm.findClass "java/lang/AbstractStringBuilder" = some m.cls := findClass_of_methodNamed Bd.named
 have X0 : Stand p l e (Rm 1 0 0 20) s m #[(.ref a1), (.ref a2)] below meth c s₁ [] 0 0 := Stand.of_body Bd
 have e0 : s₁.heap = h0 := by rw [← hh, Bd.state]; rfl
 have N0 := Fr.nil n0
 have hn0 : n0 ≤ h0.size := O0.1 ▸ O0.2.1
 have pre0 : ∀ t, SS p e below s₁ m 0 #[vR a1, vR a2] [] t → SE p e below s₁ m #[(.ref a1), (.ref a2)] 2 t := fun t k => castTop (ef_rmInf m a1 a2) k
 have lt_a1 : @LT.lt Nat _ a1 h0.size := Eb.lt
 have lt_v1 : @LT.lt Nat _ v1 h0.size := Vb.lt
 have lt_a2 : @LT.lt Nat _ a2 h0.size := Es2.lt
 have lt_t2 : @LT.lt Nat _ t2 h0.size := Vs2.lt
 obtain ⟨T101, X101, e101, st101⟩ := getS2 X0 hx hZ hown (host := "") (Or.inl (tw hw 154 rfl)) Via.refl e0 (Sta.ext O0.2 S_CS) (g := (mkF m 0 #[vR a1, vR a2] [])) rfl (hb hby d31_0)
 obtain ⟨T102, X102, e102, st102⟩ := getF X101 hx hZ hown (host := "") (Or.inl (tw hw 157 rfl)) Via.refl e101 Bc (g := (mkF m 7 #[vR a1, vR a2] [(.ref a1)])) rfl rfl (hb hby d31_7)
 obtain ⟨cq103, kq103, q103a, q103b, q103c⟩ := isOf hZ e102 Es2
 obtain ⟨_, _, ⟨T103, L103, k103, n103⟩, -, X103, ⟨Lc103, hQ103, l103, y103, z103⟩, st103⟩ := X102.virtualBack hx (y := mN0) (z := mN0) hown (mvT hZ (tw hw 197 rfl)) (mvT hZ (tw hw 176 rfl)) (notFace_of_selects (args := #[]) (mvT hZ (tw hw 178 rfl))) (mvT hZ (tw hw 178 rfl)) (mvT hZ (tw hw 177 rfl)) (by decide) (backOf (W := 1) (rmCoderL l Z a0 hw [] a2 ts t2 k2 cs0 h0 n0 O0 S_CS c_CS Es2 Sv2 Sc2 Vs2 (by omega)) hZ (tw hw 179 rfl) (tw hw 2 rfl) (by decide) (by decide)) q103a q103c (g := (mkF m 11 #[vR a1, vR a2] [(.ref a2), (.int 0)])) rfl (by rw [hml]; rfl) (Steps.refl _) (argsL := []) (rest := [(.int 0)]) (lenOf pd_18 rfl) rfl (wL _) (hb hby d31_11) (fun _ _ => ⟨rfl, e102, (by decide : 0 + 0 ≤ _), (by decide : 0 + 0 ≤ _)⟩)
 dsimp only [Pt.U, Pt.locs, Pt.cells, Pt.slots] at X103 l103 y103 z103 st103 hQ103
 rw [l103] at X103
 subst y103 z103
 obtain ⟨rfl, N103q, H103⟩ := hQ103
 have N103 := Fr.app N0 N103q
 obtain ⟨fs, hr, hrun, hended, hW, hsame⟩ := X103.leave (v := none) (fun _ => rfl)
 refine ⟨_, _, pre0 _ ?_, hrun, hended, _, _, rfl, ?_, ⟨_, rfl⟩, hW, hsame.mono (by decide) (by decide)⟩
 ·skip
  show SS p e below s₁ m 0 #[vR a1, vR a2] [] _
  refine st101 _ ?_
  refine XS.ifNo X101.here hx rfl (hb hby d31_3) rfl ((if0 _ _).trans (feq (c_CS : ¬ (cs0 = (0 : Int32)))).1) ?_
  refine XS.aloadN X101.here hx rfl (hb hby d31_6) rfl rfl ?_
  show SS p e below T101 m 7 #[vR a1, vR a2] [(.ref a1)] _
  refine st102 _ ?_
  refine XS.aloadN X102.here hx rfl (hb hby d31_10) rfl rfl ?_
  show SS p e below T102 m 11 #[vR a1, vR a2] [(.ref a2), (.int 0)] _
  refine st103.trans ?_
  refine XS.icmpYes X103.here hx rfl (pc0 := 14) (pc' := 21) rfl (hb hby d31_14) rfl (teq (by decide : (0 : Int32) = (0 : Int32))).1 (by decide) (by decide) ?_
  show SS p e below T103 m 21 #[vR a1, vR a2] [] _
  exact X103.returnOut hx Bd.returns (hb hby d31_21) hr
 ·show Q_rmInf Z a1 a2 bs ts cs0 t2 v1 k2 kv h0 n0 _ T103.heap _
  rw [H103]
  exact ⟨rfl, N103, rfl⟩
theorem d30_0 : DK cD11 0 (.aload_n 0) 1 := by decide +kernel
theorem d30_1 : DK cD11 1 (.aload_n 2) 1 := by decide +kernel
theorem d30_2 : DK cD11 2 (.invokevirtual 397) 3 := by decide +kernel
theorem d30_5 : DK cD11 5 (.aload_n 2) 1 := by decide +kernel
theorem d30_6 : DK cD11 6 (.aload_n 0) 1 := by decide +kernel
theorem d30_7 : DK cD11 7 (.getfield 15) 3 := by decide +kernel
theorem d30_10 : DK cD11 10 (.iload_n 1) 1 := by decide +kernel
theorem d30_11 : DK cD11 11 (.aload_n 0) 1 := by decide +kernel
theorem d30_12 : DK cD11 12 (.getfield 22) 3 := by decide +kernel
theorem d30_15 : DK cD11 15 (.invokevirtual 399) 3 := by decide +kernel
theorem d30_18 : DK cD11 18 (.return_) 1 := by decide +kernel
theorem pd_20 : parseMethodDescriptor "(Ljava/lang/String;)V" = some ⟨[(.object "java/lang/String")], none⟩ := by decide +kernel
theorem pd_21 : parseMethodDescriptor "([BIB)V" = some ⟨[(.array .byte), .int, .byte], none⟩ := by decide +kernel
theorem ef_rmPsa (m : MethodId) (y0 : Addr) (y1 : Int32) (y2 : Addr) : entryFrame m #[(.ref y0), (.int y1), (.ref y2)] 3 = (mkF m 0 #[vR y0, vI y1, vR y2] []) := by first | (simp [entryFrame, mkF, argsToLocals, Value.category]; done) | rfl
def Q_rmPsa (Z : State) (a1 : Addr) (a2 : Addr) (bs ts : List Int32) (cs0 : Int32) (t2 v1 : Addr) (k2 kv : ClassId) (h0 : Heap) (n0 : Nat) (v : Option Value) (h : Heap) (L : List Loc) : Prop := v = none ∧ Fr n0 L ∧ Keep h0 h [v1] ∧ Arv Z h v1 kv .byte (Int32.ofNat 16) ((bs ++ ts).map Value.int) (.int 0)
theorem rmPsa (l : Launch) (Z : State) (a0 : Array Value) (hw : HW a0 Z) (ws : List Jvm.Cond) (a1 : Addr) (a2 : Addr) (bs ts : List Int32) (cs0 : Int32) (t2 v1 : Addr) (k2 kv : ClassId) (h0 : Heap) (n0 : Nat) (O0 : Old Z n0 h0) (S_CS : SCS Z cs0) (c_CS : ¬ (cs0 = (0 : Int32))) (Es2 : Exa Z h0 a2 "java/lang/String") (Sv2 : Fld Z h0 a2 "java/lang/String" "value" "[B" (.ref t2)) (Sc2 : Fld Z h0 a2 "java/lang/String" "coder" "B" (.int 0)) (Vs2 : Arv Z h0 t2 k2 .byte (Int32.ofNat ts.length) (ts.map Value.int) (.int 0)) (hbb : bs.length + ts.length ≤ 16) (Eb : Exa Z h0 a1 "java/lang/StringBuilder") (Bv : Fld Z h0 a1 "java/lang/AbstractStringBuilder" "value" "[B" (.ref v1)) (Bc : Fld Z h0 a1 "java/lang/AbstractStringBuilder" "coder" "B" (.int 0)) (Bn : Fld Z h0 a1 "java/lang/AbstractStringBuilder" "count" "I" (.int (Int32.ofNat bs.length))) (Vb : Arv Z h0 v1 kv .byte (Int32.ofNat 16) (bs.map Value.int) (.int 0)) (g1 : n0 ≤ a1) (gv : n0 ≤ v1) (nv1 : @Ne Nat v1 a1) (nv2 : @Ne Nat v1 a2) (nv3 : @Ne Nat v1 t2) (na2 : @Ne Nat a1 a2) (na3 : @Ne Nat a1 t2) :
  MF l mN11 jdk_68_method_73_code 3 none ws (Rm 2 0 0 90) Z #[(.ref a1), (.int (Int32.ofNat bs.length)), (.ref a2)] h0 (Q_rmPsa Z a1 a2 bs ts cs0 t2 v1 k2 kv h0 n0) := by
 refine MetFree.of_bodySF (plainFor_of_name pn_24) hisR ?_
 intro p e s m args below meth c s₁ Bd hml0 hP hK
 obtain ⟨rfl, hZ, hh⟩ := hP
 have hx := Bd.exec
 have hby := Bd.bytes
 have hml : c.maxLocals = 3 := hml0
 have hown : s.vm.findClass "java/lang/AbstractStringBuilder" = some m.cls := findClass_of_methodNamed Bd.named
 have X0 : Stand p l e (Rm 2 0 0 90) s m #[(.ref a1), (.int (Int32.ofNat bs.length)), (.ref a2)] below meth c s₁ [] 0 0 := Stand.of_body Bd
 have e0 : s₁.heap = h0 := by rw [← hh, Bd.state]; rfl
 have N0 := Fr.nil n0
 have hn0 : n0 ≤ h0.size := O0.1 ▸ O0.2.1
 have pre0 : ∀ t, SS p e below s₁ m 0 #[vR a1, vI (Int32.ofNat bs.length), vR a2] [] t → SE p e below s₁ m #[(.ref a1), (.int (Int32.ofNat bs.length)), (.ref a2)] 3 t := fun t k => castTop (ef_rmPsa m a1 ((Int32.ofNat bs.length)) a2) k
 have lt_a1 : @LT.lt Nat _ a1 h0.size := Eb.lt
 have lt_v1 : @LT.lt Nat _ v1 h0.size := Vb.lt
 have lt_a2 : @LT.lt Nat _ a2 h0.size := Es2.lt
 have lt_t2 : @LT.lt Nat _ t2 h0.size := Vs2.lt
 obtain ⟨cq101, kq101, q101a, q101b, q101c⟩ := isOf hZ e0 Eb
 obtain ⟨_, _, ⟨T101, L101, k101, n101⟩, -, X101, ⟨Lc101, hQ101, l101, y101, z101⟩, st101⟩ := X0.virtualBack hx (y := mN10) (z := mN10) hown (mvT hZ (tw hw 192 rfl)) (mvT hZ (own_decl (tw hw 193 rfl) (tw hw 196 rfl))) (own_nface (a0 := #[]) (y := mN10) (mvT hZ (tw hw 185 rfl)) rfl) (mvT hZ (tw hw 195 rfl)) (mvT hZ (tw hw 193 rfl)) (by decide) (backOf (W := 0) (rmInf l Z a0 hw [] a1 a2 bs ts cs0 t2 v1 k2 kv h0 n0 O0 S_CS c_CS Es2 Sv2 Sc2 Vs2 hbb Eb Bv Bc Bn Vb (by omega : @LE.le Nat _ n0 a1) (by omega : @LE.le Nat _ n0 v1) (by omega) (by omega) (by omega) (by omega) (by omega)) hZ (tw hw 196 rfl) (tw hw 151 rfl) (by decide) (by decide)) q101a q101c (g := (mkF m 2 #[vR a1, vI (Int32.ofNat bs.length), vR a2] [(.ref a2), (.ref a1)])) rfl (by rw [hml]; rfl) (Steps.refl _) (argsL := [(.ref a2)]) (rest := []) (lenOf pd_20 rfl) rfl (wL _) (hb hby d30_2) (fun _ _ => ⟨rfl, e0, (by decide : 0 + 0 ≤ _), (by decide : 0 + 0 ≤ _)⟩)
 dsimp only [Pt.U, Pt.locs, Pt.cells, Pt.slots] at X101 l101 y101 z101 st101 hQ101
 rw [l101] at X101
 subst y101 z101
 obtain ⟨rfl, N101q, H101⟩ := hQ101
 have N101 := Fr.app N0 N101q
 obtain ⟨T102, X102, e102, st102⟩ := getF X101 hx hZ hown (host := "") (Or.inl (tw hw 155 rfl)) Via.refl H101 Bv (g := (mkF m 7 #[vR a1, vI (Int32.ofNat bs.length), vR a2] [(.ref a1), (.ref a2)])) rfl rfl (hb hby d30_7)
 obtain ⟨T103, X103, e103, st103⟩ := getF X102 hx hZ hown (host := "") (Or.inl (tw hw 157 rfl)) Via.refl e102 Bc (g := (mkF m 12 #[vR a1, vI (Int32.ofNat bs.length), vR a2] [(.ref a1), (.int (Int32.ofNat bs.length)), (.ref v1), (.ref a2)])) rfl rfl (hb hby d30_12)
 obtain ⟨cq104, kq104, q104a, q104b, q104c⟩ := isOf hZ e103 Es2
 obtain ⟨_, _, ⟨T104, L104, k104, n104⟩, -, X104, ⟨Lc104, hQ104, l104, y104, z104⟩, st104⟩ := X103.virtualBack hx (y := mN9) (z := mN9) hown (mvT hZ (tw hw 198 rfl)) (mvT hZ (tw hw 199 rfl)) (notFace_of_selects (args := #[]) (mvT hZ (tw hw 201 rfl))) (mvT hZ (tw hw 201 rfl)) (mvT hZ (tw hw 200 rfl)) (by decide) (backOf (W := 0) (rmGb l Z a0 hw [] a2 v1 bs ts cs0 t2 k2 kv h0 n0 O0 S_CS c_CS Es2 Sv2 Sc2 Vs2 hbb (by omega : @LE.le Nat _ n0 v1) Vb (by omega)) hZ (tw hw 202 rfl) (tw hw 2 rfl) (by decide) (by decide)) q104a q104c (g := (mkF m 15 #[vR a1, vI (Int32.ofNat bs.length), vR a2] [(.int 0), (.int (Int32.ofNat bs.length)), (.ref v1), (.ref a2)])) rfl (by rw [hml]; rfl) (Steps.refl _) (argsL := [(.ref v1), (.int (Int32.ofNat bs.length)), (.int 0)]) (rest := []) (lenOf pd_21 rfl) rfl (wL _) (hb hby d30_15) (fun _ _ => ⟨rfl, e103, (by decide : 0 + 0 ≤ _), (by decide : 0 + 0 ≤ _)⟩)
 dsimp only [Pt.U, Pt.locs, Pt.cells, Pt.slots] at X104 l104 y104 z104 st104 hQ104
 rw [l104] at X104
 subst y104 z104
 obtain ⟨rfl, N104q, K104, V104⟩ := hQ104
 have sz1_K104 := K104.1
 have N104 := Fr.app N101 N104q
 have KC105 : Keep h0 T104.heap [v1] := (Keep.refl h0 [v1]).trans K104 (allS (Or.inl (List.mem_of_getElem? (i := 0) rfl)) (all0))
 obtain ⟨fs, hr, hrun, hended, hW, hsame⟩ := X104.leave (v := none) (fun _ => rfl)
 refine ⟨_, _, pre0 _ ?_, hrun, hended, _, _, rfl, ?_, ⟨_, rfl⟩, hW, hsame.mono (by decide) (by decide)⟩
 ·skip
  show SS p e below s₁ m 0 #[vR a1, vI (Int32.ofNat bs.length), vR a2] [] _
  refine XS.aloadN X0.here hx rfl (hb hby d30_0) rfl rfl ?_
  refine XS.aloadN X0.here hx rfl (hb hby d30_1) rfl rfl ?_
  show SS p e below s₁ m 2 #[vR a1, vI (Int32.ofNat bs.length), vR a2] [(.ref a2), (.ref a1)] _
  refine st101.trans ?_
  refine XS.aloadN X101.here hx rfl (hb hby d30_5) rfl rfl ?_
  refine XS.aloadN X101.here hx rfl (hb hby d30_6) rfl rfl ?_
  show SS p e below T101 m 7 #[vR a1, vI (Int32.ofNat bs.length), vR a2] [(.ref a1), (.ref a2)] _
  refine st102 _ ?_
  refine XS.iloadN X102.here hx rfl (hb hby d30_10) rfl ?_
  refine XS.aloadN X102.here hx rfl (hb hby d30_11) rfl rfl ?_
  show SS p e below T102 m 12 #[vR a1, vI (Int32.ofNat bs.length), vR a2] [(.ref a1), (.int (Int32.ofNat bs.length)), (.ref v1), (.ref a2)] _
  refine st103 _ ?_
  show SS p e below T103 m 15 #[vR a1, vI (Int32.ofNat bs.length), vR a2] [(.int 0), (.int (Int32.ofNat bs.length)), (.ref v1), (.ref a2)] _
  refine st104.trans ?_
  show SS p e below T104 m 18 #[vR a1, vI (Int32.ofNat bs.length), vR a2] [] _
  exact X104.returnOut hx Bd.returns (hb hby d30_18) hr
 ·show Q_rmPsa Z a1 a2 bs ts cs0 t2 v1 k2 kv h0 n0 _ T104.heap _
  exact ⟨rfl, N104, KC105, V104⟩
theorem d29_0 : DK cD12 0 (.aload_n 0) 1 := by decide +kernel
theorem d29_1 : DK cD12 1 (.getfield 15) 3 := by decide +kernel
theorem d29_4 : DK cD12 4 (.arraylength) 1 := by decide +kernel
theorem d29_5 : DK cD12 5 (.aload_n 0) 1 := by decide +kernel
theorem d29_6 : DK cD12 6 (.getfield 22) 3 := by decide +kernel
theorem d29_9 : DK cD12 9 (.ishr) 1 := by decide +kernel
theorem d29_10 : DK cD12 10 (.istore_n 2) 1 := by decide +kernel
theorem d29_11 : DK cD12 11 (.iload_n 1) 1 := by decide +kernel
theorem d29_12 : DK cD12 12 (.iload_n 2) 1 := by decide +kernel
theorem d29_13 : DK cD12 13 (.isub) 1 := by decide +kernel
theorem d29_14 : DK cD12 14 (.ifCond .le 24) 3 := by decide +kernel
theorem d29_38 : DK cD12 38 (.return_) 1 := by decide +kernel
theorem ef_rmEns (m : MethodId) (y0 : Addr) (y1 : Int32) : entryFrame m #[(.ref y0), (.int y1)] 3 = (mkF m 0 #[vR y0, vI y1, .unset] []) := by first | (simp [entryFrame, mkF, argsToLocals, Value.category]; done) | rfl
def Q_rmEns (Z : State) (a1 : Addr) (nn : Nat) (bs : List Int32) (v1 : Addr) (kv : ClassId) (h0 : Heap) (n0 : Nat) (v : Option Value) (h : Heap) (L : List Loc) : Prop := v = none ∧ Fr n0 L ∧ h = h0
theorem rmEns (l : Launch) (Z : State) (a0 : Array Value) (hw : HW a0 Z) (ws : List Jvm.Cond) (a1 : Addr) (nn : Nat) (bs : List Int32) (v1 : Addr) (kv : ClassId) (h0 : Heap) (n0 : Nat) (O0 : Old Z n0 h0) (Eb : Exa Z h0 a1 "java/lang/StringBuilder") (Bv : Fld Z h0 a1 "java/lang/AbstractStringBuilder" "value" "[B" (.ref v1)) (Bc : Fld Z h0 a1 "java/lang/AbstractStringBuilder" "coder" "B" (.int 0)) (Bn : Fld Z h0 a1 "java/lang/AbstractStringBuilder" "count" "I" (.int (Int32.ofNat bs.length))) (Vb : Arv Z h0 v1 kv .byte (Int32.ofNat 16) (bs.map Value.int) (.int 0)) (hbb : nn ≤ 16) :
  MF l mN12 jdk_68_method_9_code 3 none ws (Rm 0 0 0 0) Z #[(.ref a1), (.int (Int32.ofNat nn))] h0 (Q_rmEns Z a1 nn bs v1 kv h0 n0) := by
 refine MetFree.of_bodySF (plainFor_of_name pn_24) hisR ?_
 intro p e s m args below meth c s₁ Bd hml0 hP hK
 obtain ⟨rfl, hZ, hh⟩ := hP
 have hx := Bd.exec
 have hby := Bd.bytes
 have hml : c.maxLocals = 3 := hml0
 have hown : s.vm.findClass "java/lang/AbstractStringBuilder" = some m.cls := findClass_of_methodNamed Bd.named
 have X0 : Stand p l e (Rm 0 0 0 0) s m #[(.ref a1), (.int (Int32.ofNat nn))] below meth c s₁ [] 0 0 := Stand.of_body Bd
 have e0 : s₁.heap = h0 := by rw [← hh, Bd.state]; rfl
 have N0 := Fr.nil n0
 have hn0 : n0 ≤ h0.size := O0.1 ▸ O0.2.1
 have pre0 : ∀ t, SS p e below s₁ m 0 #[vR a1, vI (Int32.ofNat nn), .unset] [] t → SE p e below s₁ m #[(.ref a1), (.int (Int32.ofNat nn))] 3 t := fun t k => castTop (ef_rmEns m a1 ((Int32.ofNat nn))) k
 obtain ⟨T101, X101, e101, st101⟩ := getF X0 hx hZ hown (host := "") (Or.inl (tw hw 155 rfl)) Via.refl e0 Bv (g := (mkF m 1 #[vR a1, vI (Int32.ofNat nn), .unset] [(.ref a1)])) rfl rfl (hb hby d29_1)
 obtain ⟨cl102, Ar102, q102, S102, Nn102, H102, G102⟩ := id Vb
 obtain ⟨T103, X103, e103, st103⟩ := getF X101 hx hZ hown (host := "") (Or.inl (tw hw 157 rfl)) Via.refl e101 Bc (g := (mkF m 6 #[vR a1, vI (Int32.ofNat nn), .unset] [(.ref a1), (.int (Int32.ofNat 16))])) rfl rfl (hb hby d29_6)
 have hr104 : ((Int32.ofNat 16) >>> ((0 : Int32) &&& 31)) = (Int32.ofNat 16) := own_shr0 _
 obtain ⟨fs, hr, hrun, hended, hW, hsame⟩ := X103.leave (v := none) (fun _ => rfl)
 refine ⟨_, _, pre0 _ ?_, hrun, hended, _, _, rfl, ?_, ⟨_, rfl⟩, hW, hsame.mono (by decide) (by decide)⟩
 ·skip
  show SS p e below s₁ m 0 #[vR a1, vI (Int32.ofNat nn), .unset] [] _
  refine XS.aloadN X0.here hx rfl (hb hby d29_0) rfl rfl ?_
  show SS p e below s₁ m 1 #[vR a1, vI (Int32.ofNat nn), .unset] [(.ref a1)] _
  refine st101 _ ?_
  show SS p e below T101 m 4 #[vR a1, vI (Int32.ofNat nn), .unset] [(.ref v1)] _
  refine X101.arraylength hx (by rw [e101]; exact Ar102.1) (State.isArrayOf_alike hZ.alike Ar102.2.1) (g := (mkF m 4 #[vR a1, vI (Int32.ofNat nn), .unset] [(.ref v1)])) rfl rfl (hb hby d29_4) _ ?_
  rw [len_of S102 Nn102]
  refine XS.aloadN X101.here hx rfl (hb hby d29_5) rfl rfl ?_
  show SS p e below T101 m 6 #[vR a1, vI (Int32.ofNat nn), .unset] [(.ref a1), (.int (Int32.ofNat 16))] _
  refine st103 _ ?_
  show SS p e below T103 m 9 #[vR a1, vI (Int32.ofNat nn), .unset] [(.int 0), (.int (Int32.ofNat 16))] _
  refine XS.ishr X103.here hx rfl (hb hby d29_9) rfl ?_
  show SS p e below T103 m 10 #[vR a1, vI (Int32.ofNat nn), .unset] [(.int ((Int32.ofNat 16) >>> ((0 : Int32) &&& 31)))] _
  rw [hr104]
  refine XS.istoreN X103.here hx rfl (hb hby d29_10) rfl (l' := #[vR a1, vI (Int32.ofNat nn), vI (Int32.ofNat 16)]) rfl ?_
  refine XS.iloadN X103.here hx rfl (hb hby d29_11) rfl ?_
  refine XS.iloadN X103.here hx rfl (hb hby d29_12) rfl ?_
  refine XS.isub X103.here hx rfl (hb hby d29_13) rfl ?_
  refine XS.ifYes X103.here hx rfl (pc0 := 14) (pc' := 38) rfl (hb hby d29_14) rfl ((if0 _ _).trans (flt (own_subn hbb (by omega) : ¬ ((0 : Int32) < ((Int32.ofNat nn) - (Int32.ofNat 16))))).2.2.2) (by decide) (by decide) ?_
  show SS p e below T103 m 38 #[vR a1, vI (Int32.ofNat nn), vI (Int32.ofNat 16)] [] _
  exact X103.returnOut hx Bd.returns (hb hby d29_38) hr
 ·show Q_rmEns Z a1 nn bs v1 kv h0 n0 _ T103.heap _
  rw [e103]
  exact ⟨rfl, N0, rfl⟩
theorem d26_0 : DK cD13 0 (.aload_n 1) 1 := by decide +kernel
theorem d26_1 : DK cD13 1 (.ifnonnull 8) 3 := by decide +kernel
theorem d26_9 : DK cD13 9 (.aload_n 1) 1 := by decide +kernel
theorem d26_10 : DK cD13 10 (.invokevirtual 32) 3 := by decide +kernel
theorem d26_13 : DK cD13 13 (.istore_n 2) 1 := by decide +kernel
theorem d26_14 : DK cD13 14 (.aload_n 0) 1 := by decide +kernel
theorem d26_15 : DK cD13 15 (.aload_n 0) 1 := by decide +kernel
theorem d26_16 : DK cD13 16 (.getfield 79) 3 := by decide +kernel
theorem d26_19 : DK cD13 19 (.iload_n 2) 1 := by decide +kernel
theorem d26_20 : DK cD13 20 (.iadd) 1 := by decide +kernel
theorem d26_21 : DK cD13 21 (.invokevirtual 100) 3 := by decide +kernel
theorem d26_24 : DK cD13 24 (.aload_n 0) 1 := by decide +kernel
theorem d26_25 : DK cD13 25 (.aload_n 0) 1 := by decide +kernel
theorem d26_26 : DK cD13 26 (.getfield 79) 3 := by decide +kernel
theorem d26_29 : DK cD13 29 (.aload_n 1) 1 := by decide +kernel
theorem d26_30 : DK cD13 30 (.invokevirtual 208) 3 := by decide +kernel
theorem d26_33 : DK cD13 33 (.aload_n 0) 1 := by decide +kernel
theorem d26_34 : DK cD13 34 (.dup) 1 := by decide +kernel
theorem d26_35 : DK cD13 35 (.getfield 79) 3 := by decide +kernel
theorem d26_38 : DK cD13 38 (.iload_n 2) 1 := by decide +kernel
theorem d26_39 : DK cD13 39 (.iadd) 1 := by decide +kernel
theorem d26_40 : DK cD13 40 (.putfield 79) 3 := by decide +kernel
theorem d26_43 : DK cD13 43 (.aload_n 0) 1 := by decide +kernel
theorem d26_44 : DK cD13 44 (.areturn) 1 := by decide +kernel
theorem pd_13 : parseMethodDescriptor "()I" = some ⟨[], some .int⟩ := by decide +kernel
theorem pd_19 : parseMethodDescriptor "(ILjava/lang/String;)V" = some ⟨[.int, (.object "java/lang/String")], none⟩ := by decide +kernel
theorem ef_rmAp (m : MethodId) (y0 : Addr) (y1 : Addr) : entryFrame m #[(.ref y0), (.ref y1)] 3 = (mkF m 0 #[vR y0, vR y1, .unset] []) := by first | (simp [entryFrame, mkF, argsToLocals, Value.category]; done) | rfl
def Q_rmAp (Z : State) (a1 : Addr) (a2 : Addr) (bs ts : List Int32) (cs0 : Int32) (t2 v1 : Addr) (k2 kv : ClassId) (h0 : Heap) (n0 : Nat) (v : Option Value) (h : Heap) (L : List Loc) : Prop := v = some (.ref a1) ∧ Fr n0 L ∧ Keep h0 h [a1, v1] ∧ Exa Z h a1 "java/lang/StringBuilder" ∧ Fld Z h a1 "java/lang/AbstractStringBuilder" "value" "[B" (.ref v1) ∧ Fld Z h a1 "java/lang/AbstractStringBuilder" "coder" "B" (.int 0) ∧ Fld Z h a1 "java/lang/AbstractStringBuilder" "count" "I" (.int (Int32.ofNat (bs ++ ts).length)) ∧ Arv Z h v1 kv .byte (Int32.ofNat 16) ((bs ++ ts).map Value.int) (.int 0)
theorem rmAp (l : Launch) (Z : State) (a0 : Array Value) (hw : HW a0 Z) (ws : List Jvm.Cond) (a1 : Addr) (a2 : Addr) (bs ts : List Int32) (cs0 : Int32) (t2 v1 : Addr) (k2 kv : ClassId) (h0 : Heap) (n0 : Nat) (O0 : Old Z n0 h0) (S_CS : SCS Z cs0) (c_CS : ¬ (cs0 = (0 : Int32))) (Es2 : Exa Z h0 a2 "java/lang/String") (Sv2 : Fld Z h0 a2 "java/lang/String" "value" "[B" (.ref t2)) (Sc2 : Fld Z h0 a2 "java/lang/String" "coder" "B" (.int 0)) (Vs2 : Arv Z h0 t2 k2 .byte (Int32.ofNat ts.length) (ts.map Value.int) (.int 0)) (hbb : bs.length + ts.length ≤ 16) (Eb : Exa Z h0 a1 "java/lang/StringBuilder") (Bv : Fld Z h0 a1 "java/lang/AbstractStringBuilder" "value" "[B" (.ref v1)) (Bc : Fld Z h0 a1 "java/lang/AbstractStringBuilder" "coder" "B" (.int 0)) (Bn : Fld Z h0 a1 "java/lang/AbstractStringBuilder" "count" "I" (.int (Int32.ofNat bs.length))) (Vb : Arv Z h0 v1 kv .byte (Int32.ofNat 16) (bs.map Value.int) (.int 0)) (g1 : n0 ≤ a1) (gv : n0 ≤ v1) (nv1 : @Ne Nat v1 a1) (nv2 : @Ne Nat v1 a2) (nv3 : @Ne Nat v1 t2) (na2 : @Ne Nat a1 a2) (na3 : @Ne Nat a1 t2) :
  MF l mN13 jdk_68_method_22_code 3 (some (.object "java/lang/AbstractStringBuilder")) ws (Rm 3 0 0 120) Z #[(.ref a1), (.ref a2)] h0 (Q_rmAp Z a1 a2 bs ts cs0 t2 v1 k2 kv h0 n0) := by
 refine MetFree.of_bodySF (plainFor_of_name pn_24) hisR ?_
 intro p e s m args below meth c s₁ Bd hml0 hP hK
 obtain ⟨rfl, hZ, hh⟩ := hP
 have hx := Bd.exec
 have hby := Bd.bytes
 have hml : c.maxLocals = 3 := hml0
 have hown : s.vm.findClass "java/lang/AbstractStringBuilder" = some m.cls := findClass_of_methodNamed Bd.named
 have X0 : Stand p l e (Rm 3 0 0 120) s m #[(.ref a1), (.ref a2)] below meth c s₁ [] 0 0 := Stand.of_body Bd
 have e0 : s₁.heap = h0 := by rw [← hh, Bd.state]; rfl
 have N0 := Fr.nil n0
 have hn0 : n0 ≤ h0.size := O0.1 ▸ O0.2.1
 have pre0 : ∀ t, SS p e below s₁ m 0 #[vR a1, vR a2, .unset] [] t → SE p e below s₁ m #[(.ref a1), (.ref a2)] 3 t := fun t k => castTop (ef_rmAp m a1 a2) k
 have lt_a1 : @LT.lt Nat _ a1 h0.size := Eb.lt
 have lt_v1 : @LT.lt Nat _ v1 h0.size := Vb.lt
 have lt_a2 : @LT.lt Nat _ a2 h0.size := Es2.lt
 have lt_t2 : @LT.lt Nat _ t2 h0.size := Vs2.lt
 obtain ⟨cq101, kq101, q101a, q101b, q101c⟩ := isOf hZ e0 Es2
 obtain ⟨_, _, ⟨T101, L101, k101, n101⟩, -, X101, ⟨Lc101, hQ101, l101, y101, z101⟩, st101⟩ := X0.virtualBack hx (y := mN1) (z := mN1) hown (mvT hZ (tw hw 170 rfl)) (mvT hZ (tw hw 171 rfl)) (notFace_of_selects (args := #[]) (mvT hZ (tw hw 173 rfl))) (mvT hZ (tw hw 173 rfl)) (mvT hZ (tw hw 172 rfl)) (by decide) (backOf (W := 0) (rmLenL l Z a0 hw [] a2 ts t2 k2 cs0 h0 n0 O0 S_CS c_CS Es2 Sv2 Sc2 Vs2 (by omega)) hZ (tw hw 174 rfl) (tw hw 2 rfl) (by decide) (by decide)) q101a q101c (g := (mkF m 10 #[vR a1, vR a2, .unset] [(.ref a2)])) rfl (by rw [hml]; rfl) (Steps.refl _) (argsL := []) (rest := []) (lenOf pd_13 rfl) rfl (wL _) (hb hby d26_10) (fun _ _ => ⟨rfl, e0, (by decide : 0 + 0 ≤ _), (by decide : 0 + 0 ≤ _)⟩)
 dsimp only [Pt.U, Pt.locs, Pt.cells, Pt.slots] at X101 l101 y101 z101 st101 hQ101
 rw [l101] at X101
 subst y101 z101
 obtain ⟨rfl, N101q, H101⟩ := hQ101
 have N101 := Fr.app N0 N101q
 obtain ⟨T102, X102, e102, st102⟩ := getF X101 hx hZ hown (host := "") (Or.inl (tw hw 180 rfl)) Via.refl H101 Bn (g := (mkF m 16 #[vR a1, vR a2, vI (Int32.ofNat ts.length)] [(.ref a1), (.ref a1)])) rfl rfl (hb hby d26_16)
 have hr103 : ((Int32.ofNat bs.length) + (Int32.ofNat ts.length)) = (Int32.ofNat (bs.length + ts.length)) := own_add _ _
 obtain ⟨cq104, kq104, q104a, q104b, q104c⟩ := isOf hZ e102 Eb
 obtain ⟨_, _, ⟨T104, L104, k104, n104⟩, -, X104, ⟨Lc104, hQ104, l104, y104, z104⟩, st104⟩ := X102.virtualBack hx (y := mN12) (z := mN12) hown (mvT hZ (tw hw 182 rfl)) (mvT hZ (own_decl (tw hw 183 rfl) (tw hw 186 rfl))) (own_nface (a0 := #[]) (y := mN12) (mvT hZ (tw hw 185 rfl)) rfl) (mvT hZ (tw hw 185 rfl)) (mvT hZ (tw hw 183 rfl)) (by decide) (backOf (W := 0) (rmEns l Z a0 hw [] a1 (bs.length + ts.length) bs v1 kv h0 n0 O0 Eb Bv Bc Bn Vb hbb) hZ (tw hw 186 rfl) (tw hw 151 rfl) (by decide) (by decide)) q104a q104c (g := (mkF m 21 #[vR a1, vR a2, vI (Int32.ofNat ts.length)] [(.int (Int32.ofNat (bs.length + ts.length))), (.ref a1)])) rfl (by rw [hml]; rfl) (Steps.refl _) (argsL := [(.int (Int32.ofNat (bs.length + ts.length)))]) (rest := []) (lenOf pd_15 rfl) rfl (wL _) (hb hby d26_21) (fun _ _ => ⟨rfl, e102, (by decide : 0 + 0 ≤ _), (by decide : 0 + 0 ≤ _)⟩)
 dsimp only [Pt.U, Pt.locs, Pt.cells, Pt.slots] at X104 l104 y104 z104 st104 hQ104
 rw [l104] at X104
 subst y104 z104
 obtain ⟨rfl, N104q, H104⟩ := hQ104
 have N104 := Fr.app N101 N104q
 obtain ⟨T105, X105, e105, st105⟩ := getF X104 hx hZ hown (host := "") (Or.inl (tw hw 180 rfl)) Via.refl H104 Bn (g := (mkF m 26 #[vR a1, vR a2, vI (Int32.ofNat ts.length)] [(.ref a1), (.ref a1)])) rfl rfl (hb hby d26_26)
 obtain ⟨cq106, kq106, q106a, q106b, q106c⟩ := isOf hZ e105 Eb
 obtain ⟨_, _, ⟨T106, L106, k106, n106⟩, -, X106, ⟨Lc106, hQ106, l106, y106, z106⟩, st106⟩ := X105.virtualBack hx (y := mN11) (z := mN11) hown (mvT hZ (tw hw 187 rfl)) (mvT hZ (own_decl (tw hw 188 rfl) (tw hw 191 rfl))) (own_nface (a0 := #[]) (y := mN11) (mvT hZ (tw hw 185 rfl)) rfl) (mvT hZ (tw hw 190 rfl)) (mvT hZ (tw hw 188 rfl)) (by decide) (backOf (W := 0) (rmPsa l Z a0 hw [] a1 a2 bs ts cs0 t2 v1 k2 kv h0 n0 O0 S_CS c_CS Es2 Sv2 Sc2 Vs2 hbb Eb Bv Bc Bn Vb (by omega : @LE.le Nat _ n0 a1) (by omega : @LE.le Nat _ n0 v1) (by omega) (by omega) (by omega) (by omega) (by omega)) hZ (tw hw 191 rfl) (tw hw 151 rfl) (by decide) (by decide)) q106a q106c (g := (mkF m 30 #[vR a1, vR a2, vI (Int32.ofNat ts.length)] [(.ref a2), (.int (Int32.ofNat bs.length)), (.ref a1)])) rfl (by rw [hml]; rfl) (Steps.refl _) (argsL := [(.int (Int32.ofNat bs.length)), (.ref a2)]) (rest := []) (lenOf pd_19 rfl) rfl (wL _) (hb hby d26_30) (fun _ _ => ⟨rfl, e105, (by decide : 0 + 0 ≤ _), (by decide : 0 + 0 ≤ _)⟩)
 dsimp only [Pt.U, Pt.locs, Pt.cells, Pt.slots] at X106 l106 y106 z106 st106 hQ106
 rw [l106] at X106
 subst y106 z106
 obtain ⟨rfl, N106q, K106, V106⟩ := hQ106
 have sz1_K106 := K106.1
 have N106 := Fr.app N104 N106q
 have C107 := Bn.keep K106 (ninS (by omega : @Ne Nat a1 v1) (nin0))
 obtain ⟨T108, X108, e108, st108⟩ := getF X106 hx hZ hown (host := "") (Or.inl (tw hw 180 rfl)) Via.refl rfl C107 (g := (mkF m 35 #[vR a1, vR a2, vI (Int32.ofNat ts.length)] [(.ref a1), (.ref a1)])) rfl rfl (hb hby d26_35)
 have hr109 : ((Int32.ofNat bs.length) + (Int32.ofNat ts.length)) = (Int32.ofNat (bs ++ ts).length) := by rw [List.length_append]; exact own_add _ _
 have C110 := Eb.keep K106
 obtain ⟨T111, h111, X111, e111, W111, st111⟩ := putF X108 hx hZ hown (host := "") (Or.inl (tw hw 180 rfl)) Via.refl e108 C107 C110 (Or.inl (tw hw 181 rfl)) (tw hw 142 rfl) (ty := .int) (by decide) rfl rfl (g := (mkF m 40 #[vR a1, vR a2, vI (Int32.ofNat ts.length)] [(.int (Int32.ofNat (bs ++ ts).length)), (.ref a1)])) rfl rfl (hb hby d26_40)
 have K111 := Keep.of_wr W111
 have Fw111 := Fld.same W111 C107
 have N111 := Fr.snoc X111 N106 (by omega : @LE.le Nat _ n0 a1)
 have sz2_K111 := K111.1
 have KC112 : Keep h0 T106.heap [a1, v1] := (Keep.refl h0 [a1, v1]).trans K106 (allS (Or.inl (List.mem_of_getElem? (i := 1) rfl)) (all0))
 have KC113 : Keep h0 h111 [a1, v1] := KC112.trans K111 (allS (Or.inl (List.mem_of_getElem? (i := 0) rfl)) (all0))
 have C114 := C110.keep K111
 have C115 := Bv.keep K106 (ninS (by omega : @Ne Nat a1 v1) (nin0))
 have C116 := Fld.other W111 C115 (Or.inr (slot_ne (Or.inl (tw hw 156 rfl)) (Or.inl (tw hw 181 rfl)) (by decide) (t := (.array .byte)) (t' := .int) (by decide) (by decide)))
 have C117 := Bc.keep K106 (ninS (by omega : @Ne Nat a1 v1) (nin0))
 have C118 := Fld.other W111 C117 (Or.inr (slot_ne (Or.inl (tw hw 158 rfl)) (Or.inl (tw hw 181 rfl)) (by decide) (t := .byte) (t' := .int) (by decide) (by decide)))
 have C119 := V106.keep K111 (ninS (by omega : @Ne Nat v1 a1) (nin0))
 obtain ⟨fs, hr, hrun, hended, hW, hsame⟩ := X111.leave (v := some (.ref a1)) (nvr Bd.returns)
 refine ⟨_, _, pre0 _ ?_, hrun, hended, _, _, rfl, ?_, ⟨_, rfl⟩, hW, hsame.mono (by decide) (by decide)⟩
 ·skip
  show SS p e below s₁ m 0 #[vR a1, vR a2, .unset] [] _
  refine XS.aloadN X0.here hx rfl (hb hby d26_0) rfl rfl ?_
  refine XS.ifnonnullYes X0.here hx rfl (pc0 := 1) (pc' := 9) rfl (hb hby d26_1) rfl (by decide) (by decide) ?_
  refine XS.aloadN X0.here hx rfl (hb hby d26_9) rfl rfl ?_
  show SS p e below s₁ m 10 #[vR a1, vR a2, .unset] [(.ref a2)] _
  refine st101.trans ?_
  refine XS.istoreN X101.here hx rfl (hb hby d26_13) rfl (l' := #[vR a1, vR a2, vI (Int32.ofNat ts.length)]) rfl ?_
  refine XS.aloadN X101.here hx rfl (hb hby d26_14) rfl rfl ?_
  refine XS.aloadN X101.here hx rfl (hb hby d26_15) rfl rfl ?_
  show SS p e below T101 m 16 #[vR a1, vR a2, vI (Int32.ofNat ts.length)] [(.ref a1), (.ref a1)] _
  refine st102 _ ?_
  refine XS.iloadN X102.here hx rfl (hb hby d26_19) rfl ?_
  refine XS.iadd X102.here hx rfl (hb hby d26_20) rfl ?_
  show SS p e below T102 m 21 #[vR a1, vR a2, vI (Int32.ofNat ts.length)] [(.int ((Int32.ofNat bs.length) + (Int32.ofNat ts.length))), (.ref a1)] _
  rw [hr103]
  show SS p e below T102 m 21 #[vR a1, vR a2, vI (Int32.ofNat ts.length)] [(.int (Int32.ofNat (bs.length + ts.length))), (.ref a1)] _
  refine st104.trans ?_
  refine XS.aloadN X104.here hx rfl (hb hby d26_24) rfl rfl ?_
  refine XS.aloadN X104.here hx rfl (hb hby d26_25) rfl rfl ?_
  show SS p e below T104 m 26 #[vR a1, vR a2, vI (Int32.ofNat ts.length)] [(.ref a1), (.ref a1)] _
  refine st105 _ ?_
  refine XS.aloadN X105.here hx rfl (hb hby d26_29) rfl rfl ?_
  show SS p e below T105 m 30 #[vR a1, vR a2, vI (Int32.ofNat ts.length)] [(.ref a2), (.int (Int32.ofNat bs.length)), (.ref a1)] _
  refine st106.trans ?_
  refine XS.aloadN X106.here hx rfl (hb hby d26_33) rfl rfl ?_
  refine XS.dup X106.here hx rfl (hb hby d26_34) rfl rfl ?_
  show SS p e below T106 m 35 #[vR a1, vR a2, vI (Int32.ofNat ts.length)] [(.ref a1), (.ref a1)] _
  refine st108 _ ?_
  refine XS.iloadN X108.here hx rfl (hb hby d26_38) rfl ?_
  refine XS.iadd X108.here hx rfl (hb hby d26_39) rfl ?_
  show SS p e below T108 m 40 #[vR a1, vR a2, vI (Int32.ofNat ts.length)] [(.int ((Int32.ofNat bs.length) + (Int32.ofNat ts.length))), (.ref a1)] _
  rw [hr109]
  show SS p e below T108 m 40 #[vR a1, vR a2, vI (Int32.ofNat ts.length)] [(.int (Int32.ofNat (bs ++ ts).length)), (.ref a1)] _
  refine st111 _ ?_
  refine XS.aloadN X111.here hx rfl (hb hby d26_43) rfl rfl ?_
  show SS p e below T111 m 44 #[vR a1, vR a2, vI (Int32.ofNat ts.length)] [(.ref a1)] _
  exact X111.areturnOut hx rfl Bd.returns rfl (hb hby d26_44) hr
 ·show Q_rmAp Z a1 a2 bs ts cs0 t2 v1 k2 kv h0 n0 _ T111.heap _
  rw [e111]
  exact ⟨rfl, N111, KC113, C114, C116, C118, Fw111, C119⟩
theorem d25_0 : DK cD14 0 (.aload_n 0) 1 := by decide +kernel
theorem d25_1 : DK cD14 1 (.aload_n 1) 1 := by decide +kernel
theorem d25_2 : DK cD14 2 (.invokespecial 29) 3 := by decide +kernel
theorem d25_5 : DK cD14 5 (.pop) 1 := by decide +kernel
theorem d25_6 : DK cD14 6 (.aload_n 0) 1 := by decide +kernel
theorem d25_7 : DK cD14 7 (.areturn) 1 := by decide +kernel
theorem pd_17 : parseMethodDescriptor "(Ljava/lang/String;)Ljava/lang/AbstractStringBuilder;" = some ⟨[(.object "java/lang/String")], some (.object "java/lang/AbstractStringBuilder")⟩ := by decide +kernel
theorem ef_rmSa (m : MethodId) (y0 : Addr) (y1 : Addr) : entryFrame m #[(.ref y0), (.ref y1)] 2 = (mkF m 0 #[vR y0, vR y1] []) := by first | (simp [entryFrame, mkF, argsToLocals, Value.category]; done) | rfl
def Q_rmSa (Z : State) (a1 : Addr) (a2 : Addr) (bs ts : List Int32) (cs0 : Int32) (t2 v1 : Addr) (k2 kv : ClassId) (h0 : Heap) (n0 : Nat) (v : Option Value) (h : Heap) (L : List Loc) : Prop := v = some (.ref a1) ∧ Fr n0 L ∧ Keep h0 h [a1, v1] ∧ Exa Z h a1 "java/lang/StringBuilder" ∧ Fld Z h a1 "java/lang/AbstractStringBuilder" "value" "[B" (.ref v1) ∧ Fld Z h a1 "java/lang/AbstractStringBuilder" "coder" "B" (.int 0) ∧ Fld Z h a1 "java/lang/AbstractStringBuilder" "count" "I" (.int (Int32.ofNat (bs ++ ts).length)) ∧ Arv Z h v1 kv .byte (Int32.ofNat 16) ((bs ++ ts).map Value.int) (.int 0)
theorem rmSa (l : Launch) (Z : State) (a0 : Array Value) (hw : HW a0 Z) (ws : List Jvm.Cond) (a1 : Addr) (a2 : Addr) (bs ts : List Int32) (cs0 : Int32) (t2 v1 : Addr) (k2 kv : ClassId) (h0 : Heap) (n0 : Nat) (O0 : Old Z n0 h0) (S_CS : SCS Z cs0) (c_CS : ¬ (cs0 = (0 : Int32))) (Es2 : Exa Z h0 a2 "java/lang/String") (Sv2 : Fld Z h0 a2 "java/lang/String" "value" "[B" (.ref t2)) (Sc2 : Fld Z h0 a2 "java/lang/String" "coder" "B" (.int 0)) (Vs2 : Arv Z h0 t2 k2 .byte (Int32.ofNat ts.length) (ts.map Value.int) (.int 0)) (hbb : bs.length + ts.length ≤ 16) (Eb : Exa Z h0 a1 "java/lang/StringBuilder") (Bv : Fld Z h0 a1 "java/lang/AbstractStringBuilder" "value" "[B" (.ref v1)) (Bc : Fld Z h0 a1 "java/lang/AbstractStringBuilder" "coder" "B" (.int 0)) (Bn : Fld Z h0 a1 "java/lang/AbstractStringBuilder" "count" "I" (.int (Int32.ofNat bs.length))) (Vb : Arv Z h0 v1 kv .byte (Int32.ofNat 16) (bs.map Value.int) (.int 0)) (g1 : n0 ≤ a1) (gv : n0 ≤ v1) (nv1 : @Ne Nat v1 a1) (nv2 : @Ne Nat v1 a2) (nv3 : @Ne Nat v1 t2) (na2 : @Ne Nat a1 a2) (na3 : @Ne Nat a1 t2) :
  MF l mN14 jdk_67_method_7_code 2 (some (.object "java/lang/StringBuilder")) ws (Rm 4 0 0 140) Z #[(.ref a1), (.ref a2)] h0 (Q_rmSa Z a1 a2 bs ts cs0 t2 v1 k2 kv h0 n0) := by
 refine MetFree.of_bodySF (plainFor_of_name pn_23) hisR ?_
 intro p e s m args below meth c s₁ Bd hml0 hP hK
 obtain ⟨rfl, hZ, hh⟩ := hP
 have hx := Bd.exec
 have hby := Bd.bytes
 have hml : c.maxLocals = 2 := hml0
 have hown : s.vm.findClass "java/lang/StringBuilder" = some m.cls := findClass_of_methodNamed Bd.named
 have X0 : Stand p l e (Rm 4 0 0 140) s m #[(.ref a1), (.ref a2)] below meth c s₁ [] 0 0 := Stand.of_body Bd
 have e0 : s₁.heap = h0 := by rw [← hh, Bd.state]; rfl
 have N0 := Fr.nil n0
 have hn0 : n0 ≤ h0.size := O0.1 ▸ O0.2.1
 have pre0 : ∀ t, SS p e below s₁ m 0 #[vR a1, vR a2] [] t → SE p e below s₁ m #[(.ref a1), (.ref a2)] 2 t := fun t k => castTop (ef_rmSa m a1 a2) k
 have lt_a1 : @LT.lt Nat _ a1 h0.size := Eb.lt
 have lt_v1 : @LT.lt Nat _ v1 h0.size := Vb.lt
 have lt_a2 : @LT.lt Nat _ a2 h0.size := Es2.lt
 have lt_t2 : @LT.lt Nat _ t2 h0.size := Vs2.lt
 obtain ⟨_, _, ⟨T101, L101, k101, n101⟩, -, X101, ⟨Lc101, hQ101, l101, y101, z101⟩, st101⟩ := superBack X0 hx hZ hown (tw hw 165 rfl) (own_same (tw hw 166 rfl) (own_nface (a0 := a0) (y := mN13) (tw hw 185 rfl) rfl) (by decide)) (tw hw 166 rfl) (tw hw 167 rfl) (by decide) (backOf (W := 0) (rmAp l Z a0 hw [] a1 a2 bs ts cs0 t2 v1 k2 kv h0 n0 O0 S_CS c_CS Es2 Sv2 Sc2 Vs2 hbb Eb Bv Bc Bn Vb (by omega : @LE.le Nat _ n0 a1) (by omega : @LE.le Nat _ n0 v1) (by omega) (by omega) (by omega) (by omega) (by omega)) hZ (tw hw 169 rfl) (tw hw 151 rfl) (by decide) (by decide)) e0 (Ins.self Eb) (g := (mkF m 2 #[vR a1, vR a2] [(.ref a2), (.ref a1)])) rfl (by rw [hml]; rfl) (tw hw 169 rfl) (a := a1) (argsL := [(.ref a2)]) (rest := []) (lenOf pd_17 rfl) rfl (wL _) (hb hby d25_2) (fun _ _ => ⟨rfl, e0, (by decide : 0 + 0 ≤ _), (by decide : 0 + 0 ≤ _)⟩)
 dsimp only [Pt.U, Pt.locs, Pt.cells, Pt.slots] at X101 l101 y101 z101 st101 hQ101
 rw [l101] at X101
 subst y101 z101
 obtain ⟨rfl, N101q, K101, Eb101, Bv101, Bc101, Bn101, Vb101⟩ := hQ101
 have sz1_K101 := K101.1
 have N101 := Fr.app N0 N101q
 have KC102 : Keep h0 T101.heap [a1, v1] := (Keep.refl h0 [a1, v1]).trans K101 (allS (Or.inl (List.mem_of_getElem? (i := 0) rfl)) (allS (Or.inl (List.mem_of_getElem? (i := 1) rfl)) (all0)))
 obtain ⟨fs, hr, hrun, hended, hW, hsame⟩ := X101.leave (v := some (.ref a1)) (nvr Bd.returns)
 refine ⟨_, _, pre0 _ ?_, hrun, hended, _, _, rfl, ?_, ⟨_, rfl⟩, hW, hsame.mono (by decide) (by decide)⟩
 ·skip
  show SS p e below s₁ m 0 #[vR a1, vR a2] [] _
  refine XS.aloadN X0.here hx rfl (hb hby d25_0) rfl rfl ?_
  refine XS.aloadN X0.here hx rfl (hb hby d25_1) rfl rfl ?_
  show SS p e below s₁ m 2 #[vR a1, vR a2] [(.ref a2), (.ref a1)] _
  refine st101.trans ?_
  refine XS.pop X101.here hx rfl (hb hby d25_5) rfl rfl ?_
  refine XS.aloadN X101.here hx rfl (hb hby d25_6) rfl rfl ?_
  show SS p e below T101 m 7 #[vR a1, vR a2] [(.ref a1)] _
  exact X101.areturnOut hx rfl Bd.returns rfl (hb hby d25_7) hr
 ·show Q_rmSa Z a1 a2 bs ts cs0 t2 v1 k2 kv h0 n0 _ T101.heap _
  exact ⟨rfl, N101, KC102, Eb101, Bv101, Bc101, Bn101, Vb101⟩
theorem d39_0 : DK cD15 0 (.getstatic 18) 3 := by decide +kernel
theorem d39_3 : DK cD15 3 (.ifCond .eq 14) 3 := by decide +kernel
theorem d39_6 : DK cD15 6 (.aload_n 0) 1 := by decide +kernel
theorem d39_7 : DK cD15 7 (.getfield 22) 3 := by decide +kernel
theorem d39_10 : DK cD15 10 (.ifCond .ne 7) 3 := by decide +kernel
theorem d39_13 : DK cD15 13 (.iconst 1) 1 := by decide +kernel
theorem d39_14 : DK cD15 14 (.goto 4) 3 := by decide +kernel
theorem d39_18 : DK cD15 18 (.ireturn) 1 := by decide +kernel
theorem ef_rmBl (m : MethodId) (y0 : Addr) : entryFrame m #[(.ref y0)] 1 = (mkF m 0 #[vR y0] []) := by first | (simp [entryFrame, mkF, argsToLocals, Value.category]; done) | rfl
def Q_rmBl (Z : State) (a1 : Addr) (bs : List Int32) (cs0 : Int32) (v1 : Addr) (kv : ClassId) (h0 : Heap) (n0 : Nat) (v : Option Value) (h : Heap) (L : List Loc) : Prop := v = some (.int 1) ∧ Fr n0 L ∧ h = h0
theorem rmBl (l : Launch) (Z : State) (a0 : Array Value) (hw : HW a0 Z) (ws : List Jvm.Cond) (a1 : Addr) (bs : List Int32) (cs0 : Int32) (v1 : Addr) (kv : ClassId) (h0 : Heap) (n0 : Nat) (O0 : Old Z n0 h0) (S_CS : SCS Z cs0) (c_CS : ¬ (cs0 = (0 : Int32))) (Eb : Exa Z h0 a1 "java/lang/StringBuilder") (Bv : Fld Z h0 a1 "java/lang/AbstractStringBuilder" "value" "[B" (.ref v1)) (Bc : Fld Z h0 a1 "java/lang/AbstractStringBuilder" "coder" "B" (.int 0)) (Bn : Fld Z h0 a1 "java/lang/AbstractStringBuilder" "count" "I" (.int (Int32.ofNat bs.length))) (Vb : Arv Z h0 v1 kv .byte (Int32.ofNat 16) (bs.map Value.int) (.int 0)) :
  MF l mN15 jdk_68_method_68_code 1 (some .boolean) ws (Rm 0 0 0 0) Z #[(.ref a1)] h0 (Q_rmBl Z a1 bs cs0 v1 kv h0 n0) := by
 refine MetFree.of_bodySF (plainFor_of_name pn_24) hisR ?_
 intro p e s m args below meth c s₁ Bd hml0 hP hK
 obtain ⟨rfl, hZ, hh⟩ := hP
 have hx := Bd.exec
 have hby := Bd.bytes
 have hml : c.maxLocals = 1 := hml0
 have hown : s.vm.findClass "java/lang/AbstractStringBuilder" = some m.cls := findClass_of_methodNamed Bd.named
 have X0 : Stand p l e (Rm 0 0 0 0) s m #[(.ref a1)] below meth c s₁ [] 0 0 := Stand.of_body Bd
 have e0 : s₁.heap = h0 := by rw [← hh, Bd.state]; rfl
 have N0 := Fr.nil n0
 have hn0 : n0 ≤ h0.size := O0.1 ▸ O0.2.1
 have pre0 : ∀ t, SS p e below s₁ m 0 #[vR a1] [] t → SE p e below s₁ m #[(.ref a1)] 1 t := fun t k => castTop (ef_rmBl m a1) k
 obtain ⟨T101, X101, e101, st101⟩ := getS2 X0 hx hZ hown (host := "") (Or.inl (tw hw 154 rfl)) Via.refl e0 (Sta.ext O0.2 S_CS) (g := (mkF m 0 #[vR a1] [])) rfl (hb hby d39_0)
 obtain ⟨T102, X102, e102, st102⟩ := getF X101 hx hZ hown (host := "") (Or.inl (tw hw 157 rfl)) Via.refl e101 Bc (g := (mkF m 7 #[vR a1] [(.ref a1)])) rfl rfl (hb hby d39_7)
 obtain ⟨fs, hr, hrun, hended, hW, hsame⟩ := X102.leave (v := some (.int 1)) (nvr Bd.returns)
 refine ⟨_, _, pre0 _ ?_, hrun, hended, _, _, rfl, ?_, ⟨_, rfl⟩, hW, hsame.mono (by decide) (by decide)⟩
 ·skip
  show SS p e below s₁ m 0 #[vR a1] [] _
  refine st101 _ ?_
  refine XS.ifNo X101.here hx rfl (hb hby d39_3) rfl ((if0 _ _).trans (feq (c_CS : ¬ (cs0 = (0 : Int32)))).1) ?_
  refine XS.aloadN X101.here hx rfl (hb hby d39_6) rfl rfl ?_
  show SS p e below T101 m 7 #[vR a1] [(.ref a1)] _
  refine st102 _ ?_
  refine XS.ifNo X102.here hx rfl (hb hby d39_10) rfl ((if0 _ _).trans (teq (by decide : (0 : Int32) = (0 : Int32))).2) ?_
  refine XS.iconst X102.here hx rfl (hb hby d39_13) ?_
  refine XS.goto X102.here hx rfl (pc0 := 14) (pc' := 18) rfl (hb hby d39_14) (by decide) (by decide) ?_
  show SS p e below T102 m 18 #[vR a1] [(.int 1)] _
  exact retN X102 hx (t := .boolean) Bd.returns (by simp) (hb hby d39_18) hr
 ·show Q_rmBl Z a1 bs cs0 v1 kv h0 n0 _ T102.heap _
  rw [e102]
  exact ⟨rfl, N0, rfl⟩
theorem d38_0 : DK cD16 0 (.aload_n 0) 1 := by decide +kernel
theorem d38_1 : DK cD16 1 (.getfield 79) 3 := by decide +kernel
theorem d38_4 : DK cD16 4 (.ireturn) 1 := by decide +kernel
theorem ef_rmAl (m : MethodId) (y0 : Addr) : entryFrame m #[(.ref y0)] 1 = (mkF m 0 #[vR y0] []) := by first | (simp [entryFrame, mkF, argsToLocals, Value.category]; done) | rfl
def Q_rmAl (Z : State) (a1 : Addr) (bs : List Int32) (cs0 : Int32) (v1 : Addr) (kv : ClassId) (h0 : Heap) (n0 : Nat) (v : Option Value) (h : Heap) (L : List Loc) : Prop := v = some (.int (Int32.ofNat bs.length)) ∧ Fr n0 L ∧ h = h0
theorem rmAl (l : Launch) (Z : State) (a0 : Array Value) (hw : HW a0 Z) (ws : List Jvm.Cond) (a1 : Addr) (bs : List Int32) (cs0 : Int32) (v1 : Addr) (kv : ClassId) (h0 : Heap) (n0 : Nat) (O0 : Old Z n0 h0) (S_CS : SCS Z cs0) (c_CS : ¬ (cs0 = (0 : Int32))) (Eb : Exa Z h0 a1 "java/lang/StringBuilder") (Bv : Fld Z h0 a1 "java/lang/AbstractStringBuilder" "value" "[B" (.ref v1)) (Bc : Fld Z h0 a1 "java/lang/AbstractStringBuilder" "coder" "B" (.int 0)) (Bn : Fld Z h0 a1 "java/lang/AbstractStringBuilder" "count" "I" (.int (Int32.ofNat bs.length))) (Vb : Arv Z h0 v1 kv .byte (Int32.ofNat 16) (bs.map Value.int) (.int 0)) :
  MF l mN16 jdk_68_method_6_code 1 (some .int) ws (Rm 0 0 0 0) Z #[(.ref a1)] h0 (Q_rmAl Z a1 bs cs0 v1 kv h0 n0) := by
 refine MetFree.of_bodySF (plainFor_of_name pn_24) hisR ?_
 intro p e s m args below meth c s₁ Bd hml0 hP hK
 obtain ⟨rfl, hZ, hh⟩ := hP
 have hx := Bd.exec
 have hby := Bd.bytes
 have hml : c.maxLocals = 1 := hml0
 have hown : s.vm.findClass "java/lang/AbstractStringBuilder" = some m.cls := findClass_of_methodNamed Bd.named
 have X0 : Stand p l e (Rm 0 0 0 0) s m #[(.ref a1)] below meth c s₁ [] 0 0 := Stand.of_body Bd
 have e0 : s₁.heap = h0 := by rw [← hh, Bd.state]; rfl
 have N0 := Fr.nil n0
 have hn0 : n0 ≤ h0.size := O0.1 ▸ O0.2.1
 have pre0 : ∀ t, SS p e below s₁ m 0 #[vR a1] [] t → SE p e below s₁ m #[(.ref a1)] 1 t := fun t k => castTop (ef_rmAl m a1) k
 obtain ⟨T101, X101, e101, st101⟩ := getF X0 hx hZ hown (host := "") (Or.inl (tw hw 180 rfl)) Via.refl e0 Bn (g := (mkF m 1 #[vR a1] [(.ref a1)])) rfl rfl (hb hby d38_1)
 obtain ⟨fs, hr, hrun, hended, hW, hsame⟩ := X101.leave (v := some (.int (Int32.ofNat bs.length))) (nvr Bd.returns)
 refine ⟨_, _, pre0 _ ?_, hrun, hended, _, _, rfl, ?_, ⟨_, rfl⟩, hW, hsame.mono (by decide) (by decide)⟩
 ·skip
  show SS p e below s₁ m 0 #[vR a1] [] _
  refine XS.aloadN X0.here hx rfl (hb hby d38_0) rfl rfl ?_
  show SS p e below s₁ m 1 #[vR a1] [(.ref a1)] _
  refine st101 _ ?_
  show SS p e below T101 m 4 #[vR a1] [(.int (Int32.ofNat bs.length))] _
  exact retI X101 hx Bd.returns (hb hby d38_4) hr
 ·show Q_rmAl Z a1 bs cs0 v1 kv h0 n0 _ T101.heap _
  rw [e101]
  exact ⟨rfl, N0, rfl⟩
theorem d37_0 : DK cD17 0 (.aload_n 0) 1 := by decide +kernel
theorem d37_1 : DK cD17 1 (.invokespecial 343) 3 := by decide +kernel
theorem d37_4 : DK cD17 4 (.ireturn) 1 := by decide +kernel
theorem ef_rmSl (m : MethodId) (y0 : Addr) : entryFrame m #[(.ref y0)] 1 = (mkF m 0 #[vR y0] []) := by first | (simp [entryFrame, mkF, argsToLocals, Value.category]; done) | rfl
def Q_rmSl (Z : State) (a1 : Addr) (bs : List Int32) (cs0 : Int32) (v1 : Addr) (kv : ClassId) (h0 : Heap) (n0 : Nat) (v : Option Value) (h : Heap) (L : List Loc) : Prop := v = some (.int (Int32.ofNat bs.length)) ∧ Fr n0 L ∧ h = h0
theorem rmSl (l : Launch) (Z : State) (a0 : Array Value) (hw : HW a0 Z) (ws : List Jvm.Cond) (a1 : Addr) (bs : List Int32) (cs0 : Int32) (v1 : Addr) (kv : ClassId) (h0 : Heap) (n0 : Nat) (O0 : Old Z n0 h0) (S_CS : SCS Z cs0) (c_CS : ¬ (cs0 = (0 : Int32))) (Eb : Exa Z h0 a1 "java/lang/StringBuilder") (Bv : Fld Z h0 a1 "java/lang/AbstractStringBuilder" "value" "[B" (.ref v1)) (Bc : Fld Z h0 a1 "java/lang/AbstractStringBuilder" "coder" "B" (.int 0)) (Bn : Fld Z h0 a1 "java/lang/AbstractStringBuilder" "count" "I" (.int (Int32.ofNat bs.length))) (Vb : Arv Z h0 v1 kv .byte (Int32.ofNat 16) (bs.map Value.int) (.int 0)) :
  MF l mN17 jdk_67_method_93_code 1 (some .int) ws (Rm 1 0 0 20) Z #[(.ref a1)] h0 (Q_rmSl Z a1 bs cs0 v1 kv h0 n0) := by
 refine MetFree.of_bodySF (plainFor_of_name pn_23) hisR ?_
 intro p e s m args below meth c s₁ Bd hml0 hP hK
 obtain ⟨rfl, hZ, hh⟩ := hP
 have hx := Bd.exec
 have hby := Bd.bytes
 have hml : c.maxLocals = 1 := hml0
 have hown : s.vm.findClass "java/lang/StringBuilder" = some m.cls := findClass_of_methodNamed Bd.named
 have X0 : Stand p l e (Rm 1 0 0 20) s m #[(.ref a1)] below meth c s₁ [] 0 0 := Stand.of_body Bd
 have e0 : s₁.heap = h0 := by rw [← hh, Bd.state]; rfl
 have N0 := Fr.nil n0
 have hn0 : n0 ≤ h0.size := O0.1 ▸ O0.2.1
 have pre0 : ∀ t, SS p e below s₁ m 0 #[vR a1] [] t → SE p e below s₁ m #[(.ref a1)] 1 t := fun t k => castTop (ef_rmSl m a1) k
 obtain ⟨_, _, ⟨T101, L101, k101, n101⟩, -, X101, ⟨Lc101, hQ101, l101, y101, z101⟩, st101⟩ := superBack X0 hx hZ hown (tw hw 231 rfl) (own_same (tw hw 227 rfl) (own_nface (a0 := a0) (y := mN16) (tw hw 185 rfl) rfl) (by decide)) (tw hw 227 rfl) (tw hw 167 rfl) (by decide) (backOf (W := 0) (rmAl l Z a0 hw [] a1 bs cs0 v1 kv h0 n0 O0 S_CS c_CS Eb Bv Bc Bn Vb) hZ (tw hw 232 rfl) (tw hw 151 rfl) (by decide) (by decide)) e0 (Ins.self Eb) (g := (mkF m 1 #[vR a1] [(.ref a1)])) rfl (by rw [hml]; rfl) (tw hw 232 rfl) (a := a1) (argsL := []) (rest := []) (lenOf pd_13 rfl) rfl (wL _) (hb hby d37_1) (fun _ _ => ⟨rfl, e0, (by decide : 0 + 0 ≤ _), (by decide : 0 + 0 ≤ _)⟩)
 dsimp only [Pt.U, Pt.locs, Pt.cells, Pt.slots] at X101 l101 y101 z101 st101 hQ101
 rw [l101] at X101
 subst y101 z101
 obtain ⟨rfl, N101q, H101⟩ := hQ101
 have N101 := Fr.app N0 N101q
 obtain ⟨fs, hr, hrun, hended, hW, hsame⟩ := X101.leave (v := some (.int (Int32.ofNat bs.length))) (nvr Bd.returns)
 refine ⟨_, _, pre0 _ ?_, hrun, hended, _, _, rfl, ?_, ⟨_, rfl⟩, hW, hsame.mono (by decide) (by decide)⟩
 ·skip
  show SS p e below s₁ m 0 #[vR a1] [] _
  refine XS.aloadN X0.here hx rfl (hb hby d37_0) rfl rfl ?_
  show SS p e below s₁ m 1 #[vR a1] [(.ref a1)] _
  refine st101.trans ?_
  show SS p e below T101 m 4 #[vR a1] [(.int (Int32.ofNat bs.length))] _
  exact retI X101 hx Bd.returns (hb hby d37_4) hr
 ·show Q_rmSl Z a1 bs cs0 v1 kv h0 n0 _ T101.heap _
  rw [H101]
  exact ⟨rfl, N101, rfl⟩
theorem d36_0 : DK cD18 0 (.aload_n 0) 1 := by decide +kernel
theorem d36_1 : DK cD18 1 (.getfield 15) 3 := by decide +kernel
theorem d36_4 : DK cD18 4 (.areturn) 1 := by decide +kernel
theorem ef_rmGv (m : MethodId) (y0 : Addr) : entryFrame m #[(.ref y0)] 1 = (mkF m 0 #[vR y0] []) := by first | (simp [entryFrame, mkF, argsToLocals, Value.category]; done) | rfl
def Q_rmGv (Z : State) (a1 : Addr) (bs : List Int32) (cs0 : Int32) (v1 : Addr) (kv : ClassId) (h0 : Heap) (n0 : Nat) (v : Option Value) (h : Heap) (L : List Loc) : Prop := v = some (.ref v1) ∧ Fr n0 L ∧ h = h0
theorem rmGv (l : Launch) (Z : State) (a0 : Array Value) (hw : HW a0 Z) (ws : List Jvm.Cond) (a1 : Addr) (bs : List Int32) (cs0 : Int32) (v1 : Addr) (kv : ClassId) (h0 : Heap) (n0 : Nat) (O0 : Old Z n0 h0) (S_CS : SCS Z cs0) (c_CS : ¬ (cs0 = (0 : Int32))) (Eb : Exa Z h0 a1 "java/lang/StringBuilder") (Bv : Fld Z h0 a1 "java/lang/AbstractStringBuilder" "value" "[B" (.ref v1)) (Bc : Fld Z h0 a1 "java/lang/AbstractStringBuilder" "coder" "B" (.int 0)) (Bn : Fld Z h0 a1 "java/lang/AbstractStringBuilder" "count" "I" (.int (Int32.ofNat bs.length))) (Vb : Arv Z h0 v1 kv .byte (Int32.ofNat 16) (bs.map Value.int) (.int 0)) :
  MF l mN18 jdk_68_method_64_code 1 (some (.array .byte)) ws (Rm 0 0 0 0) Z #[(.ref a1)] h0 (Q_rmGv Z a1 bs cs0 v1 kv h0 n0) := by
 refine MetFree.of_bodySF (plainFor_of_name pn_24) hisR ?_
 intro p e s m args below meth c s₁ Bd hml0 hP hK
 obtain ⟨rfl, hZ, hh⟩ := hP
 have hx := Bd.exec
 have hby := Bd.bytes
 have hml : c.maxLocals = 1 := hml0
 have hown : s.vm.findClass "java/lang/AbstractStringBuilder" = some m.cls := findClass_of_methodNamed Bd.named
 have X0 : Stand p l e (Rm 0 0 0 0) s m #[(.ref a1)] below meth c s₁ [] 0 0 := Stand.of_body Bd
 have e0 : s₁.heap = h0 := by rw [← hh, Bd.state]; rfl
 have N0 := Fr.nil n0
 have hn0 : n0 ≤ h0.size := O0.1 ▸ O0.2.1
 have pre0 : ∀ t, SS p e below s₁ m 0 #[vR a1] [] t → SE p e below s₁ m #[(.ref a1)] 1 t := fun t k => castTop (ef_rmGv m a1) k
 obtain ⟨T101, X101, e101, st101⟩ := getF X0 hx hZ hown (host := "") (Or.inl (tw hw 155 rfl)) Via.refl e0 Bv (g := (mkF m 1 #[vR a1] [(.ref a1)])) rfl rfl (hb hby d36_1)
 obtain ⟨fs, hr, hrun, hended, hW, hsame⟩ := X101.leave (v := some (.ref v1)) (nvr Bd.returns)
 refine ⟨_, _, pre0 _ ?_, hrun, hended, _, _, rfl, ?_, ⟨_, rfl⟩, hW, hsame.mono (by decide) (by decide)⟩
 ·skip
  show SS p e below s₁ m 0 #[vR a1] [] _
  refine XS.aloadN X0.here hx rfl (hb hby d36_0) rfl rfl ?_
  show SS p e below s₁ m 1 #[vR a1] [(.ref a1)] _
  refine st101 _ ?_
  show SS p e below T101 m 4 #[vR a1] [(.ref v1)] _
  exact X101.areturnOut hx rfl Bd.returns rfl (hb hby d36_4) hr
 ·show Q_rmGv Z a1 bs cs0 v1 kv h0 n0 _ T101.heap _
  rw [e101]
  exact ⟨rfl, N0, rfl⟩
theorem d35_0 : DK cD19 0 (.aload_n 0) 1 := by decide +kernel
theorem d35_1 : DK cD19 1 (.invokespecial 1) 3 := by decide +kernel
theorem d35_4 : DK cD19 4 (.aload_n 1) 1 := by decide +kernel
theorem d35_5 : DK cD19 5 (.invokevirtual 552) 3 := by decide +kernel
theorem d35_8 : DK cD19 8 (.astore_n 3) 1 := by decide +kernel
theorem d35_9 : DK cD19 9 (.aload_n 1) 1 := by decide +kernel
theorem d35_10 : DK cD19 10 (.invokevirtual 549) 3 := by decide +kernel
theorem d35_13 : DK cD19 13 (.istore 4) 2 := by decide +kernel
theorem d35_15 : DK cD19 15 (.aload_n 1) 1 := by decide +kernel
theorem d35_16 : DK cD19 16 (.invokevirtual 1047) 3 := by decide +kernel
theorem d35_19 : DK cD19 19 (.ifCond .eq 22) 3 := by decide +kernel
theorem d35_22 : DK cD19 22 (.aload_n 0) 1 := by decide +kernel
theorem d35_23 : DK cD19 23 (.iconst 0) 1 := by decide +kernel
theorem d35_24 : DK cD19 24 (.putfield 15) 3 := by decide +kernel
theorem d35_27 : DK cD19 27 (.aload_n 0) 1 := by decide +kernel
theorem d35_28 : DK cD19 28 (.aload_n 3) 1 := by decide +kernel
theorem d35_29 : DK cD19 29 (.iconst 0) 1 := by decide +kernel
theorem d35_30 : DK cD19 30 (.iload 4) 2 := by decide +kernel
theorem d35_32 : DK cD19 32 (.invokestatic 54) 3 := by decide +kernel
theorem d35_35 : DK cD19 35 (.putfield 9) 3 := by decide +kernel
theorem d35_38 : DK cD19 38 (.goto 59) 3 := by decide +kernel
theorem d35_97 : DK cD19 97 (.return_) 1 := by decide +kernel
theorem pd_26 : parseMethodDescriptor "()[B" = some ⟨[], some (.array .byte)⟩ := by decide +kernel
theorem pd_10 : parseMethodDescriptor "()Z" = some ⟨[], some .boolean⟩ := by decide +kernel
theorem ef_rmT2 (m : MethodId) (y0 : Addr) (y1 : Addr) : entryFrame m #[(.ref y0), (.ref y1), .null] 5 = (mkF m 0 #[vR y0, vR y1, .val .null, .unset, .unset] []) := by first | (simp [entryFrame, mkF, argsToLocals, Value.category]; done) | rfl
def Q_rmT2 (Z : State) (a1 : Addr) (a2 : Addr) (bs : List Int32) (cs0 : Int32) (v1 : Addr) (kv : ClassId) (h0 : Heap) (n0 : Nat) (v : Option Value) (h : Heap) (L : List Loc) : Prop := ∃ (t : Addr) (kb : ClassId), v = none ∧ Fr n0 L ∧ Keep h0 h [a1] ∧ h0.size ≤ t ∧ @Ne Nat t a1 ∧ Exa Z h a1 "java/lang/String" ∧ Fld Z h a1 "java/lang/String" "value" "[B" (.ref t) ∧ Fld Z h a1 "java/lang/String" "coder" "B" (.int 0) ∧ Arv Z h t kb .byte (Int32.ofNat bs.length) (bs.map Value.int) (.int 0)
theorem rmT2 (l : Launch) (Z : State) (a0 : Array Value) (hw : HW a0 Z) (ws : List Jvm.Cond) (a1 : Addr) (a2 : Addr) (bs : List Int32) (cs0 : Int32) (v1 : Addr) (kv : ClassId) (h0 : Heap) (n0 : Nat) (O0 : Old Z n0 h0) (S_CS : SCS Z cs0) (c_CS : ¬ (cs0 = (0 : Int32))) (Eb : Exa Z h0 a2 "java/lang/StringBuilder") (Bv : Fld Z h0 a2 "java/lang/AbstractStringBuilder" "value" "[B" (.ref v1)) (Bc : Fld Z h0 a2 "java/lang/AbstractStringBuilder" "coder" "B" (.int 0)) (Bn : Fld Z h0 a2 "java/lang/AbstractStringBuilder" "count" "I" (.int (Int32.ofNat bs.length))) (Vb : Arv Z h0 v1 kv .byte (Int32.ofNat 16) (bs.map Value.int) (.int 0)) (hbb : bs.length < 16) (g1 : n0 ≤ a1) (E1 : Exa Z h0 a1 "java/lang/String") (F1 : Fld Z h0 a1 "java/lang/String" "value" "[B" .null) (F2 : Fld Z h0 a1 "java/lang/String" "coder" "B" (.int 0)) (n12 : @Ne Nat a1 a2) (n1v : @Ne Nat a1 v1) :
  MF l mN19 jdk_42_method_150_code 5 none ws (Rm 3 1 16 90) Z #[(.ref a1), (.ref a2), .null] h0 (Q_rmT2 Z a1 a2 bs cs0 v1 kv h0 n0) := by
 refine MetFree.of_bodySF (plainFor_of_name pn_1) hisR ?_
 intro p e s m args below meth c s₁ Bd hml0 hP hK
 obtain ⟨rfl, hZ, hh⟩ := hP
 have hx := Bd.exec
 have hby := Bd.bytes
 have hml : c.maxLocals = 5 := hml0
 have hown : s.vm.findClass "java/lang/String" = some m.cls := findClass_of_methodNamed Bd.named
 have hnm := (name_of_methodNamed Bd.named Bd.method).1
 have X0 : Stand p l e (Rm 3 1 16 90) s m #[(.ref a1), (.ref a2), .null] below meth c s₁ [] 0 0 := Stand.of_body Bd
 have e0 : s₁.heap = h0 := by rw [← hh, Bd.state]; rfl
 have N0 := Fr.nil n0
 have hn0 : n0 ≤ h0.size := O0.1 ▸ O0.2.1
 have pre0 : ∀ t, SS p e below s₁ m 0 #[vR a1, vR a2, .val .null, .unset, .unset] [] t → SE p e below s₁ m #[(.ref a1), (.ref a2), .null] 5 t := fun t k => castTop (ef_rmT2 m a1 a2) k
 have lt_a1 : @LT.lt Nat _ a1 h0.size := E1.lt
 have lt_a2 : @LT.lt Nat _ a2 h0.size := Eb.lt
 have lt_v1 : @LT.lt Nat _ v1 h0.size := Vb.lt
 obtain ⟨T101, X101, e101, st101⟩ := initO X0 hx hZ hown (tw hw 11 rfl) (tw hw 12 rfl) (tw hw 13 rfl) e0 (g := (mkF m 1 #[vR a1, vR a2, .val .null, .unset, .unset] [(.ref a1)])) rfl (by rw [hml]; rfl) rfl (hb hby d35_1) (by decide) (W := 0) (wL _) (by decide)
 obtain ⟨cq102, kq102, q102a, q102b, q102c⟩ := isOf hZ e101 Eb
 obtain ⟨_, _, ⟨T102, L102, k102, n102⟩, -, X102, ⟨Lc102, hQ102, l102, y102, z102⟩, st102⟩ := X101.virtualBack hx (y := mN18) (z := mN18) hown (mvT hZ (tw hw 220 rfl)) (mvT hZ (tw hw 221 rfl)) (notFace_of_selects (args := #[]) (mvT hZ (tw hw 223 rfl))) (mvT hZ (tw hw 223 rfl)) (mvT hZ (tw hw 222 rfl)) (by decide) (backOf (W := 0) (rmGv l Z a0 hw [] a2 bs cs0 v1 kv h0 n0 O0 S_CS c_CS Eb Bv Bc Bn Vb) hZ (tw hw 224 rfl) (tw hw 151 rfl) (by decide) (by decide)) q102a q102c (g := (mkF m 5 #[vR a1, vR a2, .val .null, .unset, .unset] [(.ref a2)])) rfl (by rw [hml]; rfl) (Steps.refl _) (argsL := []) (rest := []) (lenOf pd_26 rfl) rfl (wL _) (hb hby d35_5) (fun _ _ => ⟨rfl, e101, (by decide : 0 + 0 ≤ _), (by decide : 0 + 0 ≤ _)⟩)
 dsimp only [Pt.U, Pt.locs, Pt.cells, Pt.slots] at X102 l102 y102 z102 st102 hQ102
 rw [l102] at X102
 subst y102 z102
 obtain ⟨rfl, N102q, H102⟩ := hQ102
 have N102 := Fr.app N0 N102q
 obtain ⟨cq103, kq103, q103a, q103b, q103c⟩ := isOf hZ H102 Eb
 obtain ⟨_, _, ⟨T103, L103, k103, n103⟩, -, X103, ⟨Lc103, hQ103, l103, y103, z103⟩, st103⟩ := X102.virtualBack hx (y := mN16) (z := mN17) hown (mvT hZ (tw hw 225 rfl)) (mvT hZ (tw hw 226 rfl)) (own_nface (a0 := #[]) (y := mN16) (mvT hZ (tw hw 185 rfl)) rfl) (mvT hZ (tw hw 228 rfl)) (mvT hZ (tw hw 229 rfl)) (by decide) (backOf (W := 0) (rmSl l Z a0 hw [] a2 bs cs0 v1 kv h0 n0 O0 S_CS c_CS Eb Bv Bc Bn Vb) hZ (tw hw 230 rfl) (tw hw 143 rfl) (by decide) (by decide)) q103a q103c (g := (mkF m 10 #[vR a1, vR a2, .val .null, vR v1, .unset] [(.ref a2)])) rfl (by rw [hml]; rfl) (Steps.refl _) (argsL := []) (rest := []) (lenOf pd_13 rfl) rfl (wL _) (hb hby d35_10) (fun _ _ => ⟨rfl, H102, (by decide : 0 + 0 ≤ _), (by decide : 0 + 0 ≤ _)⟩)
 dsimp only [Pt.U, Pt.locs, Pt.cells, Pt.slots] at X103 l103 y103 z103 st103 hQ103
 rw [l103] at X103
 subst y103 z103
 obtain ⟨rfl, N103q, H103⟩ := hQ103
 have N103 := Fr.app N102 N103q
 obtain ⟨cq104, kq104, q104a, q104b, q104c⟩ := isOf hZ H103 Eb
 obtain ⟨_, _, ⟨T104, L104, k104, n104⟩, -, X104, ⟨Lc104, hQ104, l104, y104, z104⟩, st104⟩ := X103.virtualBack hx (y := mN15) (z := mN15) hown (mvT hZ (tw hw 233 rfl)) (mvT hZ (tw hw 234 rfl)) (notFace_of_selects (args := #[]) (mvT hZ (tw hw 236 rfl))) (mvT hZ (tw hw 236 rfl)) (mvT hZ (tw hw 235 rfl)) (by decide) (backOf (W := 0) (rmBl l Z a0 hw [] a2 bs cs0 v1 kv h0 n0 O0 S_CS c_CS Eb Bv Bc Bn Vb) hZ (tw hw 237 rfl) (tw hw 151 rfl) (by decide) (by decide)) q104a q104c (g := (mkF m 16 #[vR a1, vR a2, .val .null, vR v1, vI (Int32.ofNat bs.length)] [(.ref a2)])) rfl (by rw [hml]; rfl) (Steps.refl _) (argsL := []) (rest := []) (lenOf pd_10 rfl) rfl (wL _) (hb hby d35_16) (fun _ _ => ⟨rfl, H103, (by decide : 0 + 0 ≤ _), (by decide : 0 + 0 ≤ _)⟩)
 dsimp only [Pt.U, Pt.locs, Pt.cells, Pt.slots] at X104 l104 y104 z104 st104 hQ104
 rw [l104] at X104
 subst y104 z104
 obtain ⟨rfl, N104q, H104⟩ := hQ104
 have N104 := Fr.app N103 N104q
 obtain ⟨T105, h105, X105, e105, W105, st105⟩ := putFN X104 hx hZ hown (tw hw 26 rfl) Via.refl H104 F2 E1 (Or.inr ⟨(tw hw 27 rfl), rfl, hnm⟩) (tw hw 1 rfl) (ty := .byte) (v' := (.int 0)) (by decide) rfl rfl (g := (mkF m 24 #[vR a1, vR a2, .val .null, vR v1, vI (Int32.ofNat bs.length)] [(.int 0), (.ref a1)])) rfl rfl (hb hby d35_24)
 have K105 := Keep.of_wr W105
 have Fw105 := Fld.same W105 F2
 have N105 := Fr.snoc X105 N104 (by omega : @LE.le Nat _ n0 a1)
 have sz1_K105 := K105.1
 have C107 := Vb.keep K105 (ninS (by omega : @Ne Nat v1 a1) (nin0))
 have O108 : Old Z n0 h105 := O0.keep K105 (allS (by omega) (all0))
 obtain ⟨_, _, ⟨T106, L106, k106, n106⟩, -, X106, ⟨Lc106, hQ106, l106, y106, z106⟩, st106⟩ := Jvm.LawKit.callS X105 hx (y := mN6) hown (mvT hZ (tw hw 238 rfl)) (mvT hZ (tw hw 239 rfl)) (mvT hZ (tw hw 240 rfl)) (mvT hZ (tw hw 241 rfl)) (by decide) (backOf (W := 1) (rmCr l Z a0 hw [] v1 bs.length 16 kv (bs.map Value.int) h105 n0 O108 C107 (List.length_map ..) (by omega) (by omega) (by omega)) hZ (tw hw 241 rfl) (tw hw 240 rfl) (by decide) (by decide)) (g := (mkF m 32 #[vR a1, vR a2, .val .null, vR v1, vI (Int32.ofNat bs.length)] [(.int (Int32.ofNat bs.length)), (.int 0), (.ref v1), (.ref a1)])) rfl (by rw [hml]; rfl) (argsL := [(.ref v1), (.int 0), (.int (Int32.ofNat bs.length))]) (rest := [(.ref a1)]) (lenOf pd_27 rfl) rfl (wL _) (hb hby d35_32) (fun _ _ => ⟨rfl, e105, (by decide : 0 + 1 ≤ _), (by decide : 0 + 16 ≤ _)⟩)
 dsimp only [Pt.U, Pt.locs, Pt.cells, Pt.slots] at X106 l106 y106 z106 st106 hQ106
 rw [l106] at X106
 subst y106 z106
 obtain ⟨t106, kb106, rfl, N106q, K106, gt106, V106⟩ := hQ106
 have lt106 : @LT.lt Nat _ t106 T106.heap.size := V106.lt
 have sz2_K106 := K106.1
 have N106 := Fr.app N105 N106q
 have KD109 : Keep h0 T106.heap [a1] := ((Keep.refl _ _).trans K105 (allS (Or.inl (List.mem_of_getElem? (i := 0) rfl)) (all0))).trans K106 (all0)
 have C110 := E1.keep KD109
 have C111 := Fld.other W105 F1 (Or.inr (slot_ne (Or.inr (tw hw 29 rfl)) (Or.inr (tw hw 27 rfl)) (by decide) (t := (.array .byte)) (t' := .byte) (by decide) (by decide)))
 have C112 := C111.keep K106 nin0
 obtain ⟨T113, h113, X113, e113, W113, st113⟩ := putF X106 hx hZ hown (host := "") (Or.inl (tw hw 28 rfl)) Via.refl rfl C112 C110 (Or.inr ⟨(tw hw 29 rfl), rfl, hnm⟩) (tw hw 1 rfl) (ty := (.array .byte)) (by decide) rfl rfl (g := (mkF m 35 #[vR a1, vR a2, .val .null, vR v1, vI (Int32.ofNat bs.length)] [(.ref t106), (.ref a1)])) rfl rfl (hb hby d35_35)
 have K113 := Keep.of_wr W113
 have Fw113 := Fld.same W113 C112
 have N113 := Fr.snoc X113 N106 (by omega : @LE.le Nat _ n0 a1)
 have sz3_K113 := K113.1
 have KC114 : Keep h0 h105 [a1] := (Keep.refl h0 [a1]).trans K105 (allS (Or.inl (List.mem_of_getElem? (i := 0) rfl)) (all0))
 have KC115 : Keep h0 T106.heap [a1] := KC114.trans K106 (all0)
 have KC116 : Keep h0 h113 [a1] := KC115.trans K113 (allS (Or.inl (List.mem_of_getElem? (i := 0) rfl)) (all0))
 have C117 := C110.keep K113
 have C118 := Fw105.keep K106 nin0
 have C119 := Fld.other W113 C118 (Or.inr (slot_ne (Or.inr (tw hw 27 rfl)) (Or.inr (tw hw 29 rfl)) (by decide) (t := .byte) (t' := (.array .byte)) (by decide) (by decide)))
 have C120 := V106.keep K113 (ninS (by omega : @Ne Nat t106 a1) (nin0))
 obtain ⟨fs, hr, hrun, hended, hW, hsame⟩ := X113.leave (v := none) (fun _ => rfl)
 refine ⟨_, _, pre0 _ ?_, hrun, hended, _, _, rfl, ?_, ⟨_, rfl⟩, hW, hsame.mono (by decide) (by decide)⟩
 ·skip
  show SS p e below s₁ m 0 #[vR a1, vR a2, .val .null, .unset, .unset] [] _
  refine XS.aloadN X0.here hx rfl (hb hby d35_0) rfl rfl ?_
  show SS p e below s₁ m 1 #[vR a1, vR a2, .val .null, .unset, .unset] [(.ref a1)] _
  refine st101 _ ?_
  refine XS.aloadN X101.here hx rfl (hb hby d35_4) rfl rfl ?_
  show SS p e below T101 m 5 #[vR a1, vR a2, .val .null, .unset, .unset] [(.ref a2)] _
  refine st102.trans ?_
  refine XS.astoreN X102.here hx rfl (hb hby d35_8) rfl rfl (l' := #[vR a1, vR a2, .val .null, vR v1, .unset]) rfl ?_
  refine XS.aloadN X102.here hx rfl (hb hby d35_9) rfl rfl ?_
  show SS p e below T102 m 10 #[vR a1, vR a2, .val .null, vR v1, .unset] [(.ref a2)] _
  refine st103.trans ?_
  refine XS.istore X103.here hx rfl (hb hby d35_13) rfl (l' := #[vR a1, vR a2, .val .null, vR v1, vI (Int32.ofNat bs.length)]) rfl ?_
  refine XS.aloadN X103.here hx rfl (hb hby d35_15) rfl rfl ?_
  show SS p e below T103 m 16 #[vR a1, vR a2, .val .null, vR v1, vI (Int32.ofNat bs.length)] [(.ref a2)] _
  refine st104.trans ?_
  refine XS.ifNo X104.here hx rfl (hb hby d35_19) rfl ((if0 _ _).trans (feq (by decide : ¬ ((1 : Int32) = (0 : Int32)))).1) ?_
  refine XS.aloadN X104.here hx rfl (hb hby d35_22) rfl rfl ?_
  refine XS.iconst X104.here hx rfl (hb hby d35_23) ?_
  show SS p e below T104 m 24 #[vR a1, vR a2, .val .null, vR v1, vI (Int32.ofNat bs.length)] [(.int 0), (.ref a1)] _
  refine st105 _ ?_
  refine XS.aloadN X105.here hx rfl (hb hby d35_27) rfl rfl ?_
  refine XS.aloadN X105.here hx rfl (hb hby d35_28) rfl rfl ?_
  refine XS.iconst X105.here hx rfl (hb hby d35_29) ?_
  refine XS.iload X105.here hx rfl (hb hby d35_30) rfl ?_
  show SS p e below T105 m 32 #[vR a1, vR a2, .val .null, vR v1, vI (Int32.ofNat bs.length)] [(.int (Int32.ofNat bs.length)), (.int 0), (.ref v1), (.ref a1)] _
  refine st106 _ ?_
  show SS p e below T106 m 35 #[vR a1, vR a2, .val .null, vR v1, vI (Int32.ofNat bs.length)] [(.ref t106), (.ref a1)] _
  refine st113 _ ?_
  refine XS.goto X113.here hx rfl (pc0 := 38) (pc' := 97) rfl (hb hby d35_38) (by decide) (by decide) ?_
  show SS p e below T113 m 97 #[vR a1, vR a2, .val .null, vR v1, vI (Int32.ofNat bs.length)] [] _
  exact X113.returnOut hx Bd.returns (hb hby d35_97) hr
 ·show Q_rmT2 Z a1 a2 bs cs0 v1 kv h0 n0 _ T113.heap _
  rw [e113]
  exact ⟨_, _, rfl, N113, KC116, (by omega), (by omega), C117, Fw113, C119, C120⟩
theorem d34_0 : DK cD20 0 (.aload_n 0) 1 := by decide +kernel
theorem d34_1 : DK cD20 1 (.aload_n 1) 1 := by decide +kernel
theorem d34_2 : DK cD20 2 (.aconst_null) 1 := by decide +kernel
theorem d34_3 : DK cD20 3 (.invokespecial 489) 3 := by decide +kernel
theorem d34_6 : DK cD20 6 (.return_) 1 := by decide +kernel
theorem pd_25 : parseMethodDescriptor "(Ljava/lang/AbstractStringBuilder;Ljava/lang/Void;)V" = some ⟨[(.object "java/lang/AbstractStringBuilder"), (.object "java/lang/Void")], none⟩ := by decide +kernel
theorem ef_rmT1 (m : MethodId) (y0 : Addr) (y1 : Addr) : entryFrame m #[(.ref y0), (.ref y1)] 2 = (mkF m 0 #[vR y0, vR y1] []) := by first | (simp [entryFrame, mkF, argsToLocals, Value.category]; done) | rfl
def Q_rmT1 (Z : State) (a1 : Addr) (a2 : Addr) (bs : List Int32) (cs0 : Int32) (v1 : Addr) (kv : ClassId) (h0 : Heap) (n0 : Nat) (v : Option Value) (h : Heap) (L : List Loc) : Prop := ∃ (t : Addr) (kb : ClassId), v = none ∧ Fr n0 L ∧ Keep h0 h [a1] ∧ h0.size ≤ t ∧ @Ne Nat t a1 ∧ Exa Z h a1 "java/lang/String" ∧ Fld Z h a1 "java/lang/String" "value" "[B" (.ref t) ∧ Fld Z h a1 "java/lang/String" "coder" "B" (.int 0) ∧ Arv Z h t kb .byte (Int32.ofNat bs.length) (bs.map Value.int) (.int 0)
theorem rmT1 (l : Launch) (Z : State) (a0 : Array Value) (hw : HW a0 Z) (ws : List Jvm.Cond) (a1 : Addr) (a2 : Addr) (bs : List Int32) (cs0 : Int32) (v1 : Addr) (kv : ClassId) (h0 : Heap) (n0 : Nat) (O0 : Old Z n0 h0) (S_CS : SCS Z cs0) (c_CS : ¬ (cs0 = (0 : Int32))) (Eb : Exa Z h0 a2 "java/lang/StringBuilder") (Bv : Fld Z h0 a2 "java/lang/AbstractStringBuilder" "value" "[B" (.ref v1)) (Bc : Fld Z h0 a2 "java/lang/AbstractStringBuilder" "coder" "B" (.int 0)) (Bn : Fld Z h0 a2 "java/lang/AbstractStringBuilder" "count" "I" (.int (Int32.ofNat bs.length))) (Vb : Arv Z h0 v1 kv .byte (Int32.ofNat 16) (bs.map Value.int) (.int 0)) (hbb : bs.length < 16) (g1 : n0 ≤ a1) (E1 : Exa Z h0 a1 "java/lang/String") (F1 : Fld Z h0 a1 "java/lang/String" "value" "[B" .null) (F2 : Fld Z h0 a1 "java/lang/String" "coder" "B" (.int 0)) (n12 : @Ne Nat a1 a2) (n1v : @Ne Nat a1 v1) :
  MF l mN20 jdk_42_method_53_code 2 none ws (Rm 4 1 16 110) Z #[(.ref a1), (.ref a2)] h0 (Q_rmT1 Z a1 a2 bs cs0 v1 kv h0 n0) := by
 refine MetFree.of_bodySF (plainFor_of_name pn_1) hisR ?_
 intro p e s m args below meth c s₁ Bd hml0 hP hK
 obtain ⟨rfl, hZ, hh⟩ := hP
 have hx := Bd.exec
 have hby := Bd.bytes
 have hml : c.maxLocals = 2 := hml0
 have hown : s.vm.findClass "java/lang/String" = some m.cls := findClass_of_methodNamed Bd.named
 have X0 : Stand p l e (Rm 4 1 16 110) s m #[(.ref a1), (.ref a2)] below meth c s₁ [] 0 0 := Stand.of_body Bd
 have e0 : s₁.heap = h0 := by rw [← hh, Bd.state]; rfl
 have N0 := Fr.nil n0
 have hn0 : n0 ≤ h0.size := O0.1 ▸ O0.2.1
 have pre0 : ∀ t, SS p e below s₁ m 0 #[vR a1, vR a2] [] t → SE p e below s₁ m #[(.ref a1), (.ref a2)] 2 t := fun t k => castTop (ef_rmT1 m a1 a2) k
 have lt_a1 : @LT.lt Nat _ a1 h0.size := E1.lt
 have lt_a2 : @LT.lt Nat _ a2 h0.size := Eb.lt
 have lt_v1 : @LT.lt Nat _ v1 h0.size := Vb.lt
 obtain ⟨_, _, ⟨T101, L101, k101, n101⟩, -, X101, ⟨Lc101, hQ101, l101, y101, z101⟩, st101⟩ := X0.specialBack hx (y := mN19) rfl hown (mvT hZ (tw hw 217 rfl)) (mvT hZ (tw hw 218 rfl)) (mvT hZ (tw hw 219 rfl)) (by decide) (backOf (W := 0) (rmT2 l Z a0 hw [] a1 a2 bs cs0 v1 kv h0 n0 O0 S_CS c_CS Eb Bv Bc Bn Vb hbb (by omega : @LE.le Nat _ n0 a1) E1 F1 F2 (by omega) (by omega)) hZ (tw hw 219 rfl) (tw hw 2 rfl) (by decide) (by decide)) (g := (mkF m 3 #[vR a1, vR a2] [.null, (.ref a2), (.ref a1)])) rfl (by rw [hml]; rfl) (Steps.refl _) (a := a1) (argsL := [(.ref a2), .null]) (rest := []) (lenOf pd_25 rfl) rfl (wL _) (hb hby d34_3) (fun _ _ => ⟨rfl, e0, (by decide : 0 + 1 ≤ _), (by decide : 0 + 16 ≤ _)⟩)
 dsimp only [Pt.U, Pt.locs, Pt.cells, Pt.slots] at X101 l101 y101 z101 st101 hQ101
 rw [l101] at X101
 subst y101 z101
 obtain ⟨t101, kb101, rfl, N101q, K101, gt101, tx101, Es101, Sv101, Sc101, Vs101⟩ := hQ101
 have lt101 : @LT.lt Nat _ t101 T101.heap.size := Vs101.lt
 have sz1_K101 := K101.1
 have N101 := Fr.app N0 N101q
 have KC102 : Keep h0 T101.heap [a1] := (Keep.refl h0 [a1]).trans K101 (allS (Or.inl (List.mem_of_getElem? (i := 0) rfl)) (all0))
 obtain ⟨fs, hr, hrun, hended, hW, hsame⟩ := X101.leave (v := none) (fun _ => rfl)
 refine ⟨_, _, pre0 _ ?_, hrun, hended, _, _, rfl, ?_, ⟨_, rfl⟩, hW, hsame.mono (by decide) (by decide)⟩
 ·skip
  show SS p e below s₁ m 0 #[vR a1, vR a2] [] _
  refine XS.aloadN X0.here hx rfl (hb hby d34_0) rfl rfl ?_
  refine XS.aloadN X0.here hx rfl (hb hby d34_1) rfl rfl ?_
  refine XS.aconstNull X0.here hx rfl (hb hby d34_2) ?_
  show SS p e below s₁ m 3 #[vR a1, vR a2] [.null, (.ref a2), (.ref a1)] _
  refine st101.trans ?_
  show SS p e below T101 m 6 #[vR a1, vR a2] [] _
  exact X101.returnOut hx Bd.returns (hb hby d34_6) hr
 ·show Q_rmT1 Z a1 a2 bs cs0 v1 kv h0 n0 _ T101.heap _
  exact ⟨_, _, rfl, N101, KC102, (by omega), (by omega), Es101, Sv101, Sc101, Vs101⟩
theorem d33_0 : DK cD21 0 (.new 18) 3 := by decide +kernel
theorem d33_3 : DK cD21 3 (.dup) 1 := by decide +kernel
theorem d33_4 : DK cD21 4 (.aload_n 0) 1 := by decide +kernel
theorem d33_5 : DK cD21 5 (.invokespecial 137) 3 := by decide +kernel
theorem d33_8 : DK cD21 8 (.areturn) 1 := by decide +kernel
theorem pd_24 : parseMethodDescriptor "(Ljava/lang/StringBuilder;)V" = some ⟨[(.object "java/lang/StringBuilder")], none⟩ := by decide +kernel
theorem ef_rmTs (m : MethodId) (y0 : Addr) : entryFrame m #[(.ref y0)] 1 = (mkF m 0 #[vR y0] []) := by first | (simp [entryFrame, mkF, argsToLocals, Value.category]; done) | rfl
def Q_rmTs (Z : State) (a1 : Addr) (bs : List Int32) (cs0 : Int32) (v1 : Addr) (kv : ClassId) (h0 : Heap) (n0 : Nat) (v : Option Value) (h : Heap) (L : List Loc) : Prop := ∃ (x t : Addr) (kb : ClassId), v = some (.ref x) ∧ Fr n0 L ∧ Keep h0 h [] ∧ h0.size ≤ x ∧ h0.size ≤ t ∧ @Ne Nat t x ∧ Exa Z h x "java/lang/String" ∧ Fld Z h x "java/lang/String" "value" "[B" (.ref t) ∧ Fld Z h x "java/lang/String" "coder" "B" (.int 0) ∧ Arv Z h t kb .byte (Int32.ofNat bs.length) (bs.map Value.int) (.int 0)
theorem rmTs (l : Launch) (Z : State) (a0 : Array Value) (hw : HW a0 Z) (ws : List Jvm.Cond) (a1 : Addr) (bs : List Int32) (cs0 : Int32) (v1 : Addr) (kv : ClassId) (h0 : Heap) (n0 : Nat) (O0 : Old Z n0 h0) (S_CS : SCS Z cs0) (c_CS : ¬ (cs0 = (0 : Int32))) (Eb : Exa Z h0 a1 "java/lang/StringBuilder") (Bv : Fld Z h0 a1 "java/lang/AbstractStringBuilder" "value" "[B" (.ref v1)) (Bc : Fld Z h0 a1 "java/lang/AbstractStringBuilder" "coder" "B" (.int 0)) (Bn : Fld Z h0 a1 "java/lang/AbstractStringBuilder" "count" "I" (.int (Int32.ofNat bs.length))) (Vb : Arv Z h0 v1 kv .byte (Int32.ofNat 16) (bs.map Value.int) (.int 0)) (hbb : bs.length < 16) :
  MF l mN21 jdk_67_method_42_code 1 (some (.object "java/lang/String")) ws (Rm 5 2 20 130) Z #[(.ref a1)] h0 (Q_rmTs Z a1 bs cs0 v1 kv h0 n0) := by
 refine MetFree.of_bodySF (plainFor_of_name pn_23) hisR ?_
 intro p e s m args below meth c s₁ Bd hml0 hP hK
 obtain ⟨rfl, hZ, hh⟩ := hP
 have hx := Bd.exec
 have hby := Bd.bytes
 have hml : c.maxLocals = 1 := hml0
 have hown : s.vm.findClass "java/lang/StringBuilder" = some m.cls := findClass_of_methodNamed Bd.named
 have X0 : Stand p l e (Rm 5 2 20 130) s m #[(.ref a1)] below meth c s₁ [] 0 0 := Stand.of_body Bd
 have e0 : s₁.heap = h0 := by rw [← hh, Bd.state]; rfl
 have N0 := Fr.nil n0
 have hn0 : n0 ≤ h0.size := O0.1 ▸ O0.2.1
 have pre0 : ∀ t, SS p e below s₁ m 0 #[vR a1] [] t → SE p e below s₁ m #[(.ref a1)] 1 t := fun t k => castTop (ef_rmTs m a1) k
 have lt_a1 : @LT.lt Nat _ a1 h0.size := Eb.lt
 have lt_v1 : @LT.lt Nat _ v1 h0.size := Vb.lt
 obtain ⟨T101, h101, X101, e101, E101, A101, D101, -, st101⟩ := newO X0 hx hZ hown (tw hw 213 rfl) (tw hw 1 rfl) (tw hw 2 rfl) e0 (g := (mkF m 0 #[vR a1] [])) rfl (hb hby d33_0) (by decide) (by decide)
 obtain ⟨b101, g101⟩ : ∃ z, z = h0.size := ⟨_, rfl⟩
 rw [← g101] at A101 D101 st101
 have lt101 : @LT.lt Nat _ b101 h101.size := A101.lt
 have K101 : Keep h0 h101 [] := (Keep.refl _ _).ext E101
 have sz1_K101 := K101.1
 have F101_coder : Fld Z h101 b101 "java/lang/String" "coder" "B" (.int 0) := D101 (Or.inr (tw hw 27 rfl)) (ty := .byte) (by decide)
 have F101_value : Fld Z h101 b101 "java/lang/String" "value" "[B" .null := D101 (Or.inr (tw hw 29 rfl)) (ty := (.array .byte)) (by decide)
 have C103 := Eb.keep K101
 have C104 := Bv.keep K101 nin0
 have C105 := Bc.keep K101 nin0
 have C106 := Bn.keep K101 nin0
 have C107 := Vb.keep K101 nin0
 have O108 : Old Z n0 h101 := O0.keep K101 all0
 obtain ⟨_, _, ⟨T102, L102, k102, n102⟩, -, X102, ⟨Lc102, hQ102, l102, y102, z102⟩, st102⟩ := X101.specialBack hx (y := mN20) rfl hown (mvT hZ (tw hw 214 rfl)) (mvT hZ (tw hw 215 rfl)) (mvT hZ (tw hw 216 rfl)) (by decide) (backOf (W := 1) (rmT1 l Z a0 hw [] b101 a1 bs cs0 v1 kv h101 n0 O108 S_CS c_CS C103 C104 C105 C106 C107 hbb (by omega : @LE.le Nat _ n0 b101) A101 F101_value F101_coder (by omega) (by omega)) hZ (tw hw 216 rfl) (tw hw 2 rfl) (by decide) (by decide)) (g := (mkF m 5 #[vR a1] [(.ref a1), (.ref b101), (.ref b101)])) rfl (by rw [hml]; rfl) (Steps.refl _) (a := b101) (argsL := [(.ref a1)]) (rest := [(.ref b101)]) (lenOf pd_24 rfl) rfl (wL _) (hb hby d33_5) (fun _ _ => ⟨rfl, e101, (by decide : 1 + 1 ≤ _), (by decide : 4 + 16 ≤ _)⟩)
 dsimp only [Pt.U, Pt.locs, Pt.cells, Pt.slots] at X102 l102 y102 z102 st102 hQ102
 rw [l102] at X102
 subst y102 z102
 obtain ⟨t102, kb102, rfl, N102q, K102, gt102, tx102, Es102, Sv102, Sc102, Vs102⟩ := hQ102
 have lt102 : @LT.lt Nat _ t102 T102.heap.size := Vs102.lt
 have sz2_K102 := K102.1
 have N102 := Fr.app N0 N102q
 have KC109 : Keep h0 h101 [] := (Keep.refl h0 []).trans K101 (all0)
 have KC110 : Keep h0 T102.heap [] := KC109.trans K102 (allS (Or.inr (by omega)) (all0))
 obtain ⟨fs, hr, hrun, hended, hW, hsame⟩ := X102.leave (v := some (.ref b101)) (nvr Bd.returns)
 refine ⟨_, _, pre0 _ ?_, hrun, hended, _, _, rfl, ?_, ⟨_, rfl⟩, hW, hsame.mono (by decide) (by decide)⟩
 ·skip
  show SS p e below s₁ m 0 #[vR a1] [] _
  refine st101 _ ?_
  refine XS.dup X101.here hx rfl (hb hby d33_3) rfl rfl ?_
  refine XS.aloadN X101.here hx rfl (hb hby d33_4) rfl rfl ?_
  show SS p e below T101 m 5 #[vR a1] [(.ref a1), (.ref b101), (.ref b101)] _
  refine st102.trans ?_
  show SS p e below T102 m 8 #[vR a1] [(.ref b101)] _
  exact X102.areturnOut hx rfl Bd.returns rfl (hb hby d33_8) hr
 ·show Q_rmTs Z a1 bs cs0 v1 kv h0 n0 _ T102.heap _
  exact ⟨_, _, _, rfl, N102, KC110, (by omega), (by omega), (by omega), Es102, Sv102, Sc102, Vs102⟩
theorem d14_0 : DK cD22 0 (.aload_n 0) 1 := by decide +kernel
theorem d14_1 : DK cD22 1 (.invokespecial 1) 3 := by decide +kernel
theorem d14_4 : DK cD22 4 (.return_) 1 := by decide +kernel
theorem pn_14 : plainName "java/util/AbstractCollection" = true := by first | (simp [plainName, overriddenIn]; done) | decide +kernel
theorem ef_rmAC (m : MethodId) (y0 : Addr) : entryFrame m #[(.ref y0)] 1 = (mkF m 0 #[vR y0] []) := by first | (simp [entryFrame, mkF, argsToLocals, Value.category]; done) | rfl
def Q_rmAC (Z : State) (a1 : Addr) (h0 : Heap) (n0 : Nat) (v : Option Value) (h : Heap) (L : List Loc) : Prop := v = none ∧ Fr n0 L ∧ h = h0
theorem rmAC (l : Launch) (Z : State) (a0 : Array Value) (hw : HW a0 Z) (ws : List Jvm.Cond) (a1 : Addr) (h0 : Heap) (n0 : Nat) (O0 : Old Z n0 h0) :
  MF l mN22 jdk_22_method_1_code 1 none ws (Rm 1 0 0 12) Z #[(.ref a1)] h0 (Q_rmAC Z a1 h0 n0) := by
 refine MetFree.of_bodySF (plainFor_of_name pn_14) hisR ?_
 intro p e s m args below meth c s₁ Bd hml0 hP hK
 obtain ⟨rfl, hZ, hh⟩ := hP
 have hx := Bd.exec
 have hby := Bd.bytes
 have hml : c.maxLocals = 1 := hml0
 have hown : s.vm.findClass "java/util/AbstractCollection" = some m.cls := findClass_of_methodNamed Bd.named
 have X0 : Stand p l e (Rm 1 0 0 12) s m #[(.ref a1)] below meth c s₁ [] 0 0 := Stand.of_body Bd
 have e0 : s₁.heap = h0 := by rw [← hh, Bd.state]; rfl
 have N0 := Fr.nil n0
 have hn0 : n0 ≤ h0.size := O0.1 ▸ O0.2.1
 have pre0 : ∀ t, SS p e below s₁ m 0 #[vR a1] [] t → SE p e below s₁ m #[(.ref a1)] 1 t := fun t k => castTop (ef_rmAC m a1) k
 obtain ⟨T101, X101, e101, st101⟩ := initO X0 hx hZ hown (tw hw 72 rfl) (tw hw 12 rfl) (tw hw 13 rfl) e0 (g := (mkF m 1 #[vR a1] [(.ref a1)])) rfl (by rw [hml]; rfl) rfl (hb hby d14_1) (by decide) (W := 0) (wL _) (by decide)
 obtain ⟨fs, hr, hrun, hended, hW, hsame⟩ := X101.leave (v := none) (fun _ => rfl)
 refine ⟨_, _, pre0 _ ?_, hrun, hended, _, _, rfl, ?_, ⟨_, rfl⟩, hW, hsame.mono (by decide) (by decide)⟩
 ·skip
  show SS p e below s₁ m 0 #[vR a1] [] _
  refine XS.aloadN X0.here hx rfl (hb hby d14_0) rfl rfl ?_
  show SS p e below s₁ m 1 #[vR a1] [(.ref a1)] _
  refine st101 _ ?_
  show SS p e below T101 m 4 #[vR a1] [] _
  exact X101.returnOut hx Bd.returns (hb hby d14_4) hr
 ·show Q_rmAC Z a1 h0 n0 _ T101.heap _
  rw [e101]
  exact ⟨rfl, N0, rfl⟩
theorem d55_0 : DK cD23 0 (.aload_n 0) 1 := by decide +kernel
theorem d55_1 : DK cD23 1 (.invokespecial 1) 3 := by decide +kernel
theorem d55_4 : DK cD23 4 (.return_) 1 := by decide +kernel
theorem pn_55 : plainName "java/util/ImmutableCollections$AbstractImmutableCollection" = true := by first | (simp [plainName, overriddenIn]; done) | decide +kernel
theorem pd_2 : parseMethodDescriptor "()V" = some ⟨[], none⟩ := by decide +kernel
theorem ef_rmAIC (m : MethodId) (y0 : Addr) : entryFrame m #[(.ref y0)] 1 = (mkF m 0 #[vR y0] []) := by first | (simp [entryFrame, mkF, argsToLocals, Value.category]; done) | rfl
def Q_rmAIC (Z : State) (a1 : Addr) (h0 : Heap) (n0 : Nat) (v : Option Value) (h : Heap) (L : List Loc) : Prop := v = none ∧ Fr n0 L ∧ h = h0
theorem rmAIC (l : Launch) (Z : State) (a0 : Array Value) (hw : HW a0 Z) (ws : List Jvm.Cond) (a1 : Addr) (h0 : Heap) (n0 : Nat) (O0 : Old Z n0 h0) :
  MF l mN23 jdk_47_method_1_code 1 none ws (Rm 2 0 0 24) Z #[(.ref a1)] h0 (Q_rmAIC Z a1 h0 n0) := by
 refine MetFree.of_bodySF (plainFor_of_name pn_55) hisR ?_
 intro p e s m args below meth c s₁ Bd hml0 hP hK
 obtain ⟨rfl, hZ, hh⟩ := hP
 have hx := Bd.exec
 have hby := Bd.bytes
 have hml : c.maxLocals = 1 := hml0
 have hown : s.vm.findClass "java/util/ImmutableCollections$AbstractImmutableCollection" = some m.cls := findClass_of_methodNamed Bd.named
 have X0 : Stand p l e (Rm 2 0 0 24) s m #[(.ref a1)] below meth c s₁ [] 0 0 := Stand.of_body Bd
 have e0 : s₁.heap = h0 := by rw [← hh, Bd.state]; rfl
 have N0 := Fr.nil n0
 have hn0 : n0 ≤ h0.size := O0.1 ▸ O0.2.1
 have pre0 : ∀ t, SS p e below s₁ m 0 #[vR a1] [] t → SE p e below s₁ m #[(.ref a1)] 1 t := fun t k => castTop (ef_rmAIC m a1) k
 obtain ⟨_, _, ⟨T101, L101, k101, n101⟩, -, X101, ⟨Lc101, hQ101, l101, y101, z101⟩, st101⟩ := X0.specialBack hx (y := mN22) rfl hown (mvT hZ (tw hw 328 rfl)) (mvT hZ (tw hw 67 rfl)) (mvT hZ (tw hw 71 rfl)) (by decide) (backOf (W := 0) (rmAC l Z a0 hw [] a1  h0 n0 O0 ) hZ (tw hw 71 rfl) (tw hw 70 rfl) (by decide) (by decide)) (g := (mkF m 1 #[vR a1] [(.ref a1)])) rfl (by rw [hml]; rfl) (Steps.refl _) (a := a1) (argsL := []) (rest := []) (lenOf pd_2 rfl) rfl (wL _) (hb hby d55_1) (fun _ _ => ⟨rfl, e0, (by decide : 0 + 0 ≤ _), (by decide : 0 + 0 ≤ _)⟩)
 dsimp only [Pt.U, Pt.locs, Pt.cells, Pt.slots] at X101 l101 y101 z101 st101 hQ101
 rw [l101] at X101
 subst y101 z101
 obtain ⟨rfl, N101q, H101⟩ := hQ101
 have N101 := Fr.app N0 N101q
 obtain ⟨fs, hr, hrun, hended, hW, hsame⟩ := X101.leave (v := none) (fun _ => rfl)
 refine ⟨_, _, pre0 _ ?_, hrun, hended, _, _, rfl, ?_, ⟨_, rfl⟩, hW, hsame.mono (by decide) (by decide)⟩
 ·skip
  show SS p e below s₁ m 0 #[vR a1] [] _
  refine XS.aloadN X0.here hx rfl (hb hby d55_0) rfl rfl ?_
  show SS p e below s₁ m 1 #[vR a1] [(.ref a1)] _
  refine st101.trans ?_
  show SS p e below T101 m 4 #[vR a1] [] _
  exact X101.returnOut hx Bd.returns (hb hby d55_4) hr
 ·show Q_rmAIC Z a1 h0 n0 _ T101.heap _
  rw [H101]
  exact ⟨rfl, N101, rfl⟩
theorem d54_0 : DK cD24 0 (.aload_n 0) 1 := by decide +kernel
theorem d54_1 : DK cD24 1 (.invokespecial 1) 3 := by decide +kernel
theorem d54_4 : DK cD24 4 (.return_) 1 := by decide +kernel
theorem pn_54 : plainName "java/util/ImmutableCollections$AbstractImmutableList" = true := by first | (simp [plainName, overriddenIn]; done) | decide +kernel
theorem ef_rmAIL (m : MethodId) (y0 : Addr) : entryFrame m #[(.ref y0)] 1 = (mkF m 0 #[vR y0] []) := by first | (simp [entryFrame, mkF, argsToLocals, Value.category]; done) | rfl
def Q_rmAIL (Z : State) (a1 : Addr) (h0 : Heap) (n0 : Nat) (v : Option Value) (h : Heap) (L : List Loc) : Prop := v = none ∧ Fr n0 L ∧ h = h0
theorem rmAIL (l : Launch) (Z : State) (a0 : Array Value) (hw : HW a0 Z) (ws : List Jvm.Cond) (a1 : Addr) (h0 : Heap) (n0 : Nat) (O0 : Old Z n0 h0) :
  MF l mN24 jdk_46_method_1_code 1 none ws (Rm 3 0 0 36) Z #[(.ref a1)] h0 (Q_rmAIL Z a1 h0 n0) := by
 refine MetFree.of_bodySF (plainFor_of_name pn_54) hisR ?_
 intro p e s m args below meth c s₁ Bd hml0 hP hK
 obtain ⟨rfl, hZ, hh⟩ := hP
 have hx := Bd.exec
 have hby := Bd.bytes
 have hml : c.maxLocals = 1 := hml0
 have hown : s.vm.findClass "java/util/ImmutableCollections$AbstractImmutableList" = some m.cls := findClass_of_methodNamed Bd.named
 have X0 : Stand p l e (Rm 3 0 0 36) s m #[(.ref a1)] below meth c s₁ [] 0 0 := Stand.of_body Bd
 have e0 : s₁.heap = h0 := by rw [← hh, Bd.state]; rfl
 have N0 := Fr.nil n0
 have hn0 : n0 ≤ h0.size := O0.1 ▸ O0.2.1
 have pre0 : ∀ t, SS p e below s₁ m 0 #[vR a1] [] t → SE p e below s₁ m #[(.ref a1)] 1 t := fun t k => castTop (ef_rmAIL m a1) k
 obtain ⟨_, _, ⟨T101, L101, k101, n101⟩, -, X101, ⟨Lc101, hQ101, l101, y101, z101⟩, st101⟩ := X0.specialBack hx (y := mN23) rfl hown (mvT hZ (tw hw 322 rfl)) (mvT hZ (tw hw 323 rfl)) (mvT hZ (tw hw 327 rfl)) (by decide) (backOf (W := 0) (rmAIC l Z a0 hw [] a1  h0 n0 O0 ) hZ (tw hw 327 rfl) (tw hw 326 rfl) (by decide) (by decide)) (g := (mkF m 1 #[vR a1] [(.ref a1)])) rfl (by rw [hml]; rfl) (Steps.refl _) (a := a1) (argsL := []) (rest := []) (lenOf pd_2 rfl) rfl (wL _) (hb hby d54_1) (fun _ _ => ⟨rfl, e0, (by decide : 0 + 0 ≤ _), (by decide : 0 + 0 ≤ _)⟩)
 dsimp only [Pt.U, Pt.locs, Pt.cells, Pt.slots] at X101 l101 y101 z101 st101 hQ101
 rw [l101] at X101
 subst y101 z101
 obtain ⟨rfl, N101q, H101⟩ := hQ101
 have N101 := Fr.app N0 N101q
 obtain ⟨fs, hr, hrun, hended, hW, hsame⟩ := X101.leave (v := none) (fun _ => rfl)
 refine ⟨_, _, pre0 _ ?_, hrun, hended, _, _, rfl, ?_, ⟨_, rfl⟩, hW, hsame.mono (by decide) (by decide)⟩
 ·skip
  show SS p e below s₁ m 0 #[vR a1] [] _
  refine XS.aloadN X0.here hx rfl (hb hby d54_0) rfl rfl ?_
  show SS p e below s₁ m 1 #[vR a1] [(.ref a1)] _
  refine st101.trans ?_
  show SS p e below T101 m 4 #[vR a1] [] _
  exact X101.returnOut hx Bd.returns (hb hby d54_4) hr
 ·show Q_rmAIL Z a1 h0 n0 _ T101.heap _
  rw [H101]
  exact ⟨rfl, N101, rfl⟩
theorem d13_0 : DK cD25 0 (.aload_n 0) 1 := by decide +kernel
theorem d13_1 : DK cD25 1 (.invokespecial 1) 3 := by decide +kernel
theorem d13_4 : DK cD25 4 (.aload_n 0) 1 := by decide +kernel
theorem d13_5 : DK cD25 5 (.iconst 0) 1 := by decide +kernel
theorem d13_6 : DK cD25 6 (.putfield 7) 3 := by decide +kernel
theorem d13_9 : DK cD25 9 (.return_) 1 := by decide +kernel
theorem pn_13 : plainName "java/util/AbstractList" = true := by first | (simp [plainName, overriddenIn]; done) | decide +kernel
theorem ef_rmABL (m : MethodId) (y0 : Addr) : entryFrame m #[(.ref y0)] 1 = (mkF m 0 #[vR y0] []) := by first | (simp [entryFrame, mkF, argsToLocals, Value.category]; done) | rfl
def Q_rmABL (Z : State) (a1 : Addr) (h0 : Heap) (n0 : Nat) (v : Option Value) (h : Heap) (L : List Loc) : Prop := v = none ∧ Fr n0 L ∧ Keep h0 h [a1] ∧ Exa Z h a1 "java/util/ArrayList" ∧ Fld Z h a1 "java/util/ArrayList" "elementData" "[Ljava/lang/Object;" .null ∧ Fld Z h a1 "java/util/ArrayList" "size" "I" (.int 0) ∧ Fld Z h a1 "java/util/AbstractList" "modCount" "I" (.int 0)
theorem rmABL (l : Launch) (Z : State) (a0 : Array Value) (hw : HW a0 Z) (ws : List Jvm.Cond) (a1 : Addr) (h0 : Heap) (n0 : Nat) (O0 : Old Z n0 h0) (g1 : n0 ≤ a1) (El : Exa Z h0 a1 "java/util/ArrayList") (Ld : Fld Z h0 a1 "java/util/ArrayList" "elementData" "[Ljava/lang/Object;" .null) (Ln : Fld Z h0 a1 "java/util/ArrayList" "size" "I" (.int 0)) (Lm : Fld Z h0 a1 "java/util/AbstractList" "modCount" "I" (.int 0)) :
  MF l mN25 jdk_39_method_1_code 1 none ws (Rm 2 0 0 24) Z #[(.ref a1)] h0 (Q_rmABL Z a1 h0 n0) := by
 refine MetFree.of_bodySF (plainFor_of_name pn_13) hisR ?_
 intro p e s m args below meth c s₁ Bd hml0 hP hK
 obtain ⟨rfl, hZ, hh⟩ := hP
 have hx := Bd.exec
 have hby := Bd.bytes
 have hml : c.maxLocals = 1 := hml0
 have hown : s.vm.findClass "java/util/AbstractList" = some m.cls := findClass_of_methodNamed Bd.named
 have X0 : Stand p l e (Rm 2 0 0 24) s m #[(.ref a1)] below meth c s₁ [] 0 0 := Stand.of_body Bd
 have e0 : s₁.heap = h0 := by rw [← hh, Bd.state]; rfl
 have N0 := Fr.nil n0
 have hn0 : n0 ≤ h0.size := O0.1 ▸ O0.2.1
 have pre0 : ∀ t, SS p e below s₁ m 0 #[vR a1] [] t → SE p e below s₁ m #[(.ref a1)] 1 t := fun t k => castTop (ef_rmABL m a1) k
 have lt_a1 : @LT.lt Nat _ a1 h0.size := El.lt
 obtain ⟨_, _, ⟨T101, L101, k101, n101⟩, -, X101, ⟨Lc101, hQ101, l101, y101, z101⟩, st101⟩ := X0.specialBack hx (y := mN22) rfl hown (mvT hZ (tw hw 66 rfl)) (mvT hZ (tw hw 67 rfl)) (mvT hZ (tw hw 71 rfl)) (by decide) (backOf (W := 0) (rmAC l Z a0 hw [] a1  h0 n0 O0 ) hZ (tw hw 71 rfl) (tw hw 70 rfl) (by decide) (by decide)) (g := (mkF m 1 #[vR a1] [(.ref a1)])) rfl (by rw [hml]; rfl) (Steps.refl _) (a := a1) (argsL := []) (rest := []) (lenOf pd_2 rfl) rfl (wL _) (hb hby d13_1) (fun _ _ => ⟨rfl, e0, (by decide : 0 + 0 ≤ _), (by decide : 0 + 0 ≤ _)⟩)
 dsimp only [Pt.U, Pt.locs, Pt.cells, Pt.slots] at X101 l101 y101 z101 st101 hQ101
 rw [l101] at X101
 subst y101 z101
 obtain ⟨rfl, N101q, H101⟩ := hQ101
 have N101 := Fr.app N0 N101q
 obtain ⟨T102, h102, X102, e102, W102, st102⟩ := putF X101 hx hZ hown (host := "") (Or.inl (tw hw 73 rfl)) Via.refl H101 Lm El (Or.inl (tw hw 74 rfl)) (tw hw 55 rfl) (ty := .int) (by decide) rfl rfl (g := (mkF m 6 #[vR a1] [(.int 0), (.ref a1)])) rfl rfl (hb hby d13_6)
 have K102 := Keep.of_wr W102
 have Fw102 := Fld.same W102 Lm
 have N102 := Fr.snoc X102 N101 (by omega : @LE.le Nat _ n0 a1)
 have sz1_K102 := K102.1
 have KC103 : Keep h0 h102 [a1] := (Keep.refl h0 [a1]).trans K102 (allS (Or.inl (List.mem_of_getElem? (i := 0) rfl)) (all0))
 have C104 := El.keep K102
 have C105 := Fld.other W102 Ld (Or.inr (slot_ne (Or.inl (tw hw 77 rfl)) (Or.inl (tw hw 74 rfl)) (by decide) (t := (.array (.object "java/lang/Object"))) (t' := .int) (by decide) (by decide)))
 have C106 := Fld.other W102 Ln (Or.inr (slot_ne (Or.inl (tw hw 95 rfl)) (Or.inl (tw hw 74 rfl)) (by decide) (t := .int) (t' := .int) (by decide) (by decide)))
 obtain ⟨fs, hr, hrun, hended, hW, hsame⟩ := X102.leave (v := none) (fun _ => rfl)
 refine ⟨_, _, pre0 _ ?_, hrun, hended, _, _, rfl, ?_, ⟨_, rfl⟩, hW, hsame.mono (by decide) (by decide)⟩
 ·skip
  show SS p e below s₁ m 0 #[vR a1] [] _
  refine XS.aloadN X0.here hx rfl (hb hby d13_0) rfl rfl ?_
  show SS p e below s₁ m 1 #[vR a1] [(.ref a1)] _
  refine st101.trans ?_
  refine XS.aloadN X101.here hx rfl (hb hby d13_4) rfl rfl ?_
  refine XS.iconst X101.here hx rfl (hb hby d13_5) ?_
  show SS p e below T101 m 6 #[vR a1] [(.int 0), (.ref a1)] _
  refine st102 _ ?_
  show SS p e below T102 m 9 #[vR a1] [] _
  exact X102.returnOut hx Bd.returns (hb hby d13_9) hr
 ·show Q_rmABL Z a1 h0 n0 _ T102.heap _
  rw [e102]
  exact ⟨rfl, N102, KC103, C104, C105, C106, Fw102⟩
theorem d12_0 : DK cD26 0 (.aload_n 0) 1 := by decide +kernel
theorem d12_1 : DK cD26 1 (.invokespecial 1) 3 := by decide +kernel
theorem d12_4 : DK cD26 4 (.aload_n 0) 1 := by decide +kernel
theorem d12_5 : DK cD26 5 (.getstatic 39) 3 := by decide +kernel
theorem d12_8 : DK cD26 8 (.putfield 9) 3 := by decide +kernel
theorem d12_11 : DK cD26 11 (.return_) 1 := by decide +kernel
theorem pn_12 : plainName "java/util/ArrayList" = true := by first | (simp [plainName, overriddenIn]; done) | decide +kernel
theorem ef_rmALi (m : MethodId) (y0 : Addr) : entryFrame m #[(.ref y0)] 1 = (mkF m 0 #[vR y0] []) := by first | (simp [entryFrame, mkF, argsToLocals, Value.category]; done) | rfl
def Q_rmALi (Z : State) (a1 : Addr) (dd : Addr) (kD : ClassId) (h0 : Heap) (n0 : Nat) (v : Option Value) (h : Heap) (L : List Loc) : Prop := v = none ∧ Fr n0 L ∧ Keep h0 h [a1] ∧ Exa Z h a1 "java/util/ArrayList" ∧ Fld Z h a1 "java/util/ArrayList" "elementData" "[Ljava/lang/Object;" (.ref dd) ∧ Fld Z h a1 "java/util/ArrayList" "size" "I" (.int 0) ∧ Fld Z h a1 "java/util/AbstractList" "modCount" "I" (.int 0)
theorem rmALi (l : Launch) (Z : State) (a0 : Array Value) (hw : HW a0 Z) (ws : List Jvm.Cond) (a1 : Addr) (dd : Addr) (kD : ClassId) (h0 : Heap) (n0 : Nat) (O0 : Old Z n0 h0) (S_DC : Sta Z Z.heap "java/util/ArrayList" "DEFAULTCAPACITY_EMPTY_ELEMENTDATA" "[Ljava/lang/Object;" (.ref dd)) (V_DC : Arv Z Z.heap dd kD (.object "java/lang/Object") (0 : Int32) [] .null) (g1 : n0 ≤ a1) (El : Exa Z h0 a1 "java/util/ArrayList") (Ld : Fld Z h0 a1 "java/util/ArrayList" "elementData" "[Ljava/lang/Object;" .null) (Ln : Fld Z h0 a1 "java/util/ArrayList" "size" "I" (.int 0)) (Lm : Fld Z h0 a1 "java/util/AbstractList" "modCount" "I" (.int 0)) :
  MF l mN26 jdk_38_method_2_code 1 none ws (Rm 3 0 0 40) Z #[(.ref a1)] h0 (Q_rmALi Z a1 dd kD h0 n0) := by
 refine MetFree.of_bodySF (plainFor_of_name pn_12) hisR ?_
 intro p e s m args below meth c s₁ Bd hml0 hP hK
 obtain ⟨rfl, hZ, hh⟩ := hP
 have hx := Bd.exec
 have hby := Bd.bytes
 have hml : c.maxLocals = 1 := hml0
 have hown : s.vm.findClass "java/util/ArrayList" = some m.cls := findClass_of_methodNamed Bd.named
 have X0 : Stand p l e (Rm 3 0 0 40) s m #[(.ref a1)] below meth c s₁ [] 0 0 := Stand.of_body Bd
 have e0 : s₁.heap = h0 := by rw [← hh, Bd.state]; rfl
 have N0 := Fr.nil n0
 have hn0 : n0 ≤ h0.size := O0.1 ▸ O0.2.1
 have pre0 : ∀ t, SS p e below s₁ m 0 #[vR a1] [] t → SE p e below s₁ m #[(.ref a1)] 1 t := fun t k => castTop (ef_rmALi m a1) k
 have lt_a1 : @LT.lt Nat _ a1 h0.size := El.lt
 obtain ⟨_, _, ⟨T101, L101, k101, n101⟩, -, X101, ⟨Lc101, hQ101, l101, y101, z101⟩, st101⟩ := X0.specialBack hx (y := mN25) rfl hown (mvT hZ (tw hw 60 rfl)) (mvT hZ (tw hw 61 rfl)) (mvT hZ (tw hw 65 rfl)) (by decide) (backOf (W := 0) (rmABL l Z a0 hw [] a1  h0 n0 O0 (by omega : @LE.le Nat _ n0 a1) El Ld Ln Lm) hZ (tw hw 65 rfl) (tw hw 64 rfl) (by decide) (by decide)) (g := (mkF m 1 #[vR a1] [(.ref a1)])) rfl (by rw [hml]; rfl) (Steps.refl _) (a := a1) (argsL := []) (rest := []) (lenOf pd_2 rfl) rfl (wL _) (hb hby d12_1) (fun _ _ => ⟨rfl, e0, (by decide : 0 + 0 ≤ _), (by decide : 0 + 0 ≤ _)⟩)
 dsimp only [Pt.U, Pt.locs, Pt.cells, Pt.slots] at X101 l101 y101 z101 st101 hQ101
 rw [l101] at X101
 subst y101 z101
 obtain ⟨rfl, N101q, K101, El101, Ld101, Ln101, Lm101⟩ := hQ101
 have sz1_K101 := K101.1
 have N101 := Fr.app N0 N101q
 have O102 : Old Z n0 T101.heap := O0.keep K101 (allS (by omega) (all0))
 obtain ⟨T103, X103, e103, st103⟩ := getS2 X101 hx hZ hown (host := "") (Or.inl (tw hw 75 rfl)) Via.refl rfl (Sta.ext O102.2 S_DC) (g := (mkF m 5 #[vR a1] [(.ref a1)])) rfl (hb hby d12_5)
 obtain ⟨T104, h104, X104, e104, W104, st104⟩ := putF X103 hx hZ hown (host := "") (Or.inl (tw hw 76 rfl)) Via.refl e103 Ld101 El101 (Or.inl (tw hw 77 rfl)) (tw hw 55 rfl) (ty := (.array (.object "java/lang/Object"))) (by decide) rfl rfl (g := (mkF m 8 #[vR a1] [(.ref dd), (.ref a1)])) rfl rfl (hb hby d12_8)
 have K104 := Keep.of_wr W104
 have Fw104 := Fld.same W104 Ld101
 have N104 := Fr.snoc X104 N101 (by omega : @LE.le Nat _ n0 a1)
 have sz2_K104 := K104.1
 have KC105 : Keep h0 T101.heap [a1] := (Keep.refl h0 [a1]).trans K101 (allS (Or.inl (List.mem_of_getElem? (i := 0) rfl)) (all0))
 have KC106 : Keep h0 h104 [a1] := KC105.trans K104 (allS (Or.inl (List.mem_of_getElem? (i := 0) rfl)) (all0))
 have C107 := El101.keep K104
 have C108 := Fld.other W104 Ln101 (Or.inr (slot_ne (Or.inl (tw hw 95 rfl)) (Or.inl (tw hw 77 rfl)) (by decide) (t := .int) (t' := (.array (.object "java/lang/Object"))) (by decide) (by decide)))
 have C109 := Fld.other W104 Lm101 (Or.inr (slot_ne (Or.inl (tw hw 74 rfl)) (Or.inl (tw hw 77 rfl)) (by decide) (t := .int) (t' := (.array (.object "java/lang/Object"))) (by decide) (by decide)))
 obtain ⟨fs, hr, hrun, hended, hW, hsame⟩ := X104.leave (v := none) (fun _ => rfl)
 refine ⟨_, _, pre0 _ ?_, hrun, hended, _, _, rfl, ?_, ⟨_, rfl⟩, hW, hsame.mono (by decide) (by decide)⟩
 ·skip
  show SS p e below s₁ m 0 #[vR a1] [] _
  refine XS.aloadN X0.here hx rfl (hb hby d12_0) rfl rfl ?_
  show SS p e below s₁ m 1 #[vR a1] [(.ref a1)] _
  refine st101.trans ?_
  refine XS.aloadN X101.here hx rfl (hb hby d12_4) rfl rfl ?_
  show SS p e below T101 m 5 #[vR a1] [(.ref a1)] _
  refine st103 _ ?_
  show SS p e below T103 m 8 #[vR a1] [(.ref dd), (.ref a1)] _
  refine st104 _ ?_
  show SS p e below T104 m 11 #[vR a1] [] _
  exact X104.returnOut hx Bd.returns (hb hby d12_11) hr
 ·show Q_rmALi Z a1 dd kD h0 n0 _ T104.heap _
  rw [e104]
  exact ⟨rfl, N104, KC106, C107, Fw104, C108, C109⟩
theorem d11_0 : DK cD27 0 (.aload_n 0) 1 := by decide +kernel
theorem d11_1 : DK cD27 1 (.invokespecial 1) 3 := by decide +kernel
theorem d11_4 : DK cD27 4 (.aload_n 0) 1 := by decide +kernel
theorem d11_5 : DK cD27 5 (.new 7) 3 := by decide +kernel
theorem d11_8 : DK cD27 8 (.dup) 1 := by decide +kernel
theorem d11_9 : DK cD27 9 (.invokespecial 9) 3 := by decide +kernel
theorem d11_12 : DK cD27 12 (.putfield 10) 3 := by decide +kernel
theorem d11_15 : DK cD27 15 (.return_) 1 := by decide +kernel
theorem pn_11 : plainName "com/example/nroute/nroute/route/Mistakes" = true := by first | (simp [plainName, overriddenIn]; done) | decide +kernel
theorem ef_rmMi (m : MethodId) (y0 : Addr) : entryFrame m #[(.ref y0)] 1 = (mkF m 0 #[vR y0] []) := by first | (simp [entryFrame, mkF, argsToLocals, Value.category]; done) | rfl
def Q_rmMi (Z : State) (a1 : Addr) (dd : Addr) (kD : ClassId) (h0 : Heap) (n0 : Nat) (v : Option Value) (h : Heap) (L : List Loc) : Prop := ∃ x : Addr, v = none ∧ Fr n0 L ∧ Keep h0 h [a1] ∧ h0.size ≤ x ∧ Exa Z h a1 "com/example/nroute/nroute/route/Mistakes" ∧ Fld Z h a1 "com/example/nroute/nroute/route/Mistakes" "lines" "Ljava/util/List;" (.ref x) ∧ Exa Z h x "java/util/ArrayList" ∧ Fld Z h x "java/util/ArrayList" "elementData" "[Ljava/lang/Object;" (.ref dd) ∧ Fld Z h x "java/util/ArrayList" "size" "I" (.int 0) ∧ Fld Z h x "java/util/AbstractList" "modCount" "I" (.int 0)
theorem rmMi (l : Launch) (Z : State) (a0 : Array Value) (hw : HW a0 Z) (ws : List Jvm.Cond) (a1 : Addr) (dd : Addr) (kD : ClassId) (h0 : Heap) (n0 : Nat) (O0 : Old Z n0 h0) (S_DC : Sta Z Z.heap "java/util/ArrayList" "DEFAULTCAPACITY_EMPTY_ELEMENTDATA" "[Ljava/lang/Object;" (.ref dd)) (V_DC : Arv Z Z.heap dd kD (.object "java/lang/Object") (0 : Int32) [] .null) (g1 : n0 ≤ a1) (Em : Exa Z h0 a1 "com/example/nroute/nroute/route/Mistakes") (Ml : Fld Z h0 a1 "com/example/nroute/nroute/route/Mistakes" "lines" "Ljava/util/List;" .null) :
  MF l mN27 prog_26_method_1_code 1 none ws (Rm 4 1 3 60) Z #[(.ref a1)] h0 (Q_rmMi Z a1 dd kD h0 n0) := by
 refine MetFree.of_bodySF (plainFor_of_name pn_11) hisR ?_
 intro p e s m args below meth c s₁ Bd hml0 hP hK
 obtain ⟨rfl, hZ, hh⟩ := hP
 have hx := Bd.exec
 have hby := Bd.bytes
 have hml : c.maxLocals = 1 := hml0
 have hown : s.vm.findClass "com/example/nroute/nroute/route/Mistakes" = some m.cls := findClass_of_methodNamed Bd.named
 have hnm := (name_of_methodNamed Bd.named Bd.method).1
 have X0 : Stand p l e (Rm 4 1 3 60) s m #[(.ref a1)] below meth c s₁ [] 0 0 := Stand.of_body Bd
 have e0 : s₁.heap = h0 := by rw [← hh, Bd.state]; rfl
 have N0 := Fr.nil n0
 have hn0 : n0 ≤ h0.size := O0.1 ▸ O0.2.1
 have pre0 : ∀ t, SS p e below s₁ m 0 #[vR a1] [] t → SE p e below s₁ m #[(.ref a1)] 1 t := fun t k => castTop (ef_rmMi m a1) k
 have lt_a1 : @LT.lt Nat _ a1 h0.size := Em.lt
 obtain ⟨T101, X101, e101, st101⟩ := initO X0 hx hZ hown (tw hw 53 rfl) (tw hw 12 rfl) (tw hw 13 rfl) e0 (g := (mkF m 1 #[vR a1] [(.ref a1)])) rfl (by rw [hml]; rfl) rfl (hb hby d11_1) (by decide) (W := 0) (wL _) (by decide)
 obtain ⟨T102, h102, X102, e102, E102, A102, D102, -, st102⟩ := newO X101 hx hZ hown (tw hw 54 rfl) (tw hw 55 rfl) (tw hw 56 rfl) e101 (g := (mkF m 5 #[vR a1] [(.ref a1)])) rfl (hb hby d11_5) (by decide) (by decide)
 obtain ⟨b102, g102⟩ : ∃ z, z = h0.size := ⟨_, rfl⟩
 rw [← g102] at A102 D102 st102
 have lt102 : @LT.lt Nat _ b102 h102.size := A102.lt
 have K102 : Keep h0 h102 [] := (Keep.refl _ _).ext E102
 have sz1_K102 := K102.1
 have F102_modCount : Fld Z h102 b102 "java/util/AbstractList" "modCount" "I" (.int 0) := D102 (Or.inl (tw hw 74 rfl)) (ty := .int) (by decide)
 have F102_elementData : Fld Z h102 b102 "java/util/ArrayList" "elementData" "[Ljava/lang/Object;" .null := D102 (Or.inl (tw hw 77 rfl)) (ty := (.array (.object "java/lang/Object"))) (by decide)
 have F102_size : Fld Z h102 b102 "java/util/ArrayList" "size" "I" (.int 0) := D102 (Or.inl (tw hw 95 rfl)) (ty := .int) (by decide)
 have O104 : Old Z n0 h102 := O0.keep K102 all0
 obtain ⟨_, _, ⟨T103, L103, k103, n103⟩, -, X103, ⟨Lc103, hQ103, l103, y103, z103⟩, st103⟩ := X102.specialBack hx (y := mN26) rfl hown (mvT hZ (tw hw 57 rfl)) (mvT hZ (tw hw 58 rfl)) (mvT hZ (tw hw 59 rfl)) (by decide) (backOf (W := 2) (rmALi l Z a0 hw [] b102 dd kD h102 n0 O104 S_DC V_DC (by omega : @LE.le Nat _ n0 b102) A102 F102_elementData F102_size F102_modCount) hZ (tw hw 59 rfl) (tw hw 56 rfl) (by decide) (by decide)) (g := (mkF m 9 #[vR a1] [(.ref b102), (.ref b102), (.ref a1)])) rfl (by rw [hml]; rfl) (Steps.refl _) (a := b102) (argsL := []) (rest := [(.ref b102), (.ref a1)]) (lenOf pd_2 rfl) rfl (wL _) (hb hby d11_9) (fun _ _ => ⟨rfl, e102, (by decide : 1 + 0 ≤ _), (by decide : 3 + 0 ≤ _)⟩)
 dsimp only [Pt.U, Pt.locs, Pt.cells, Pt.slots] at X103 l103 y103 z103 st103 hQ103
 rw [l103] at X103
 subst y103 z103
 obtain ⟨rfl, N103q, K103, El103, Ld103, Ln103, Lm103⟩ := hQ103
 have sz2_K103 := K103.1
 have N103 := Fr.app N0 N103q
 have KD105 : Keep h0 T103.heap [] := ((Keep.refl _ _).trans K102 (all0)).trans K103 (allS (Or.inr (by omega)) (all0))
 have C106 := Em.keep KD105
 have C107 := Ml.keep KD105 nin0
 obtain ⟨T108, h108, X108, e108, W108, st108⟩ := putF X103 hx hZ hown (host := "") (Or.inl (tw hw 78 rfl)) Via.refl rfl C107 C106 (Or.inr ⟨(tw hw 79 rfl), rfl, hnm⟩) (tw hw 48 rfl) (ty := (.object "java/util/List")) (by decide) rfl rfl (g := (mkF m 12 #[vR a1] [(.ref b102), (.ref a1)])) rfl rfl (hb hby d11_12)
 have K108 := Keep.of_wr W108
 have Fw108 := Fld.same W108 C107
 have N108 := Fr.snoc X108 N103 (by omega : @LE.le Nat _ n0 a1)
 have sz3_K108 := K108.1
 have KC109 : Keep h0 h102 [a1] := (Keep.refl h0 [a1]).trans K102 (all0)
 have KC110 : Keep h0 T103.heap [a1] := KC109.trans K103 (allS (Or.inr (by omega)) (all0))
 have KC111 : Keep h0 h108 [a1] := KC110.trans K108 (allS (Or.inl (List.mem_of_getElem? (i := 0) rfl)) (all0))
 have C112 := C106.keep K108
 have C113 := El103.keep K108
 have C114 := Ld103.keep K108 (ninS (by omega : @Ne Nat b102 a1) (nin0))
 have C115 := Ln103.keep K108 (ninS (by omega : @Ne Nat b102 a1) (nin0))
 have C116 := Lm103.keep K108 (ninS (by omega : @Ne Nat b102 a1) (nin0))
 obtain ⟨fs, hr, hrun, hended, hW, hsame⟩ := X108.leave (v := none) (fun _ => rfl)
 refine ⟨_, _, pre0 _ ?_, hrun, hended, _, _, rfl, ?_, ⟨_, rfl⟩, hW, hsame.mono (by decide) (by decide)⟩
 ·skip
  show SS p e below s₁ m 0 #[vR a1] [] _
  refine XS.aloadN X0.here hx rfl (hb hby d11_0) rfl rfl ?_
  show SS p e below s₁ m 1 #[vR a1] [(.ref a1)] _
  refine st101 _ ?_
  refine XS.aloadN X101.here hx rfl (hb hby d11_4) rfl rfl ?_
  show SS p e below T101 m 5 #[vR a1] [(.ref a1)] _
  refine st102 _ ?_
  refine XS.dup X102.here hx rfl (hb hby d11_8) rfl rfl ?_
  show SS p e below T102 m 9 #[vR a1] [(.ref b102), (.ref b102), (.ref a1)] _
  refine st103.trans ?_
  show SS p e below T103 m 12 #[vR a1] [(.ref b102), (.ref a1)] _
  refine st108 _ ?_
  show SS p e below T108 m 15 #[vR a1] [] _
  exact X108.returnOut hx Bd.returns (hb hby d11_15) hr
 ·show Q_rmMi Z a1 dd kD h0 n0 _ T108.heap _
  rw [e108]
  exact ⟨_, rfl, N108, KC111, (by omega), C112, Fw108, C113, C114, C115, C116⟩
theorem d16_0 : DK cD28 0 (.aload_n 0) 1 := by decide +kernel
theorem d16_1 : DK cD28 1 (.getfield 48) 3 := by decide +kernel
theorem d16_4 : DK cD28 4 (.ifCond .ne 7) 3 := by decide +kernel
theorem d16_7 : DK cD28 7 (.iconst 1) 1 := by decide +kernel
theorem d16_8 : DK cD28 8 (.goto 4) 3 := by decide +kernel
theorem d16_12 : DK cD28 12 (.ireturn) 1 := by decide +kernel
theorem ef_rmAie0 (m : MethodId) (y0 : Addr) : entryFrame m #[(.ref y0)] 1 = (mkF m 0 #[vR y0] []) := by first | (simp [entryFrame, mkF, argsToLocals, Value.category]; done) | rfl
def Q_rmAie0 (Z : State) (a1 : Addr) (h0 : Heap) (n0 : Nat) (v : Option Value) (h : Heap) (L : List Loc) : Prop := v = some (.int 1) ∧ Fr n0 L ∧ h = h0
theorem rmAie0 (l : Launch) (Z : State) (a0 : Array Value) (hw : HW a0 Z) (ws : List Jvm.Cond) (a1 : Addr) (h0 : Heap) (n0 : Nat) (O0 : Old Z n0 h0) (El : Exa Z h0 a1 "java/util/ArrayList") (Ln : Fld Z h0 a1 "java/util/ArrayList" "size" "I" (.int 0)) :
  MF l mN28 jdk_38_method_9_code 1 (some .boolean) ws (Rm 0 0 0 0) Z #[(.ref a1)] h0 (Q_rmAie0 Z a1 h0 n0) := by
 refine MetFree.of_bodySF (plainFor_of_name pn_12) hisR ?_
 intro p e s m args below meth c s₁ Bd hml0 hP hK
 obtain ⟨rfl, hZ, hh⟩ := hP
 have hx := Bd.exec
 have hby := Bd.bytes
 have hml : c.maxLocals = 1 := hml0
 have hown : s.vm.findClass "java/util/ArrayList" = some m.cls := findClass_of_methodNamed Bd.named
 have X0 : Stand p l e (Rm 0 0 0 0) s m #[(.ref a1)] below meth c s₁ [] 0 0 := Stand.of_body Bd
 have e0 : s₁.heap = h0 := by rw [← hh, Bd.state]; rfl
 have N0 := Fr.nil n0
 have hn0 : n0 ≤ h0.size := O0.1 ▸ O0.2.1
 have pre0 : ∀ t, SS p e below s₁ m 0 #[vR a1] [] t → SE p e below s₁ m #[(.ref a1)] 1 t := fun t k => castTop (ef_rmAie0 m a1) k
 obtain ⟨T101, X101, e101, st101⟩ := getF X0 hx hZ hown (host := "") (Or.inl (tw hw 94 rfl)) Via.refl e0 Ln (g := (mkF m 1 #[vR a1] [(.ref a1)])) rfl rfl (hb hby d16_1)
 obtain ⟨fs, hr, hrun, hended, hW, hsame⟩ := X101.leave (v := some (.int 1)) (nvr Bd.returns)
 refine ⟨_, _, pre0 _ ?_, hrun, hended, _, _, rfl, ?_, ⟨_, rfl⟩, hW, hsame.mono (by decide) (by decide)⟩
 ·skip
  show SS p e below s₁ m 0 #[vR a1] [] _
  refine XS.aloadN X0.here hx rfl (hb hby d16_0) rfl rfl ?_
  show SS p e below s₁ m 1 #[vR a1] [(.ref a1)] _
  refine st101 _ ?_
  refine XS.ifNo X101.here hx rfl (hb hby d16_4) rfl ((if0 _ _).trans (teq (by decide : (0 : Int32) = (0 : Int32))).2) ?_
  refine XS.iconst X101.here hx rfl (hb hby d16_7) ?_
  refine XS.goto X101.here hx rfl (pc0 := 8) (pc' := 12) rfl (hb hby d16_8) (by decide) (by decide) ?_
  show SS p e below T101 m 12 #[vR a1] [(.int 1)] _
  exact retN X101 hx (t := .boolean) Bd.returns (by simp) (hb hby d16_12) hr
 ·show Q_rmAie0 Z a1 h0 n0 _ T101.heap _
  rw [e101]
  exact ⟨rfl, N0, rfl⟩
theorem d15_0 : DK cD29 0 (.aload_n 0) 1 := by decide +kernel
theorem d15_1 : DK cD29 1 (.getfield 10) 3 := by decide +kernel
theorem d15_4 : DK cD29 4 (.invokeinterface 37 1) 5 := by decide +kernel
theorem d15_9 : DK cD29 9 (.ireturn) 1 := by decide +kernel
theorem ef_rmMie0 (m : MethodId) (y0 : Addr) : entryFrame m #[(.ref y0)] 1 = (mkF m 0 #[vR y0] []) := by first | (simp [entryFrame, mkF, argsToLocals, Value.category]; done) | rfl
def Q_rmMie0 (Z : State) (a1 : Addr) (x : Addr) (h0 : Heap) (n0 : Nat) (v : Option Value) (h : Heap) (L : List Loc) : Prop := v = some (.int 1) ∧ Fr n0 L ∧ h = h0
theorem rmMie0 (l : Launch) (Z : State) (a0 : Array Value) (hw : HW a0 Z) (ws : List Jvm.Cond) (a1 : Addr) (x : Addr) (h0 : Heap) (n0 : Nat) (O0 : Old Z n0 h0) (Em : Exa Z h0 a1 "com/example/nroute/nroute/route/Mistakes") (Ml : Fld Z h0 a1 "com/example/nroute/nroute/route/Mistakes" "lines" "Ljava/util/List;" (.ref x)) (El : Exa Z h0 x "java/util/ArrayList") (Ln : Fld Z h0 x "java/util/ArrayList" "size" "I" (.int 0)) :
  MF l mN29 prog_26_method_3_code 1 (some .boolean) ws (Rm 1 0 0 20) Z #[(.ref a1)] h0 (Q_rmMie0 Z a1 x h0 n0) := by
 refine MetFree.of_bodySF (plainFor_of_name pn_11) hisR ?_
 intro p e s m args below meth c s₁ Bd hml0 hP hK
 obtain ⟨rfl, hZ, hh⟩ := hP
 have hx := Bd.exec
 have hby := Bd.bytes
 have hml : c.maxLocals = 1 := hml0
 have hown : s.vm.findClass "com/example/nroute/nroute/route/Mistakes" = some m.cls := findClass_of_methodNamed Bd.named
 have X0 : Stand p l e (Rm 1 0 0 20) s m #[(.ref a1)] below meth c s₁ [] 0 0 := Stand.of_body Bd
 have e0 : s₁.heap = h0 := by rw [← hh, Bd.state]; rfl
 have N0 := Fr.nil n0
 have hn0 : n0 ≤ h0.size := O0.1 ▸ O0.2.1
 have pre0 : ∀ t, SS p e below s₁ m 0 #[vR a1] [] t → SE p e below s₁ m #[(.ref a1)] 1 t := fun t k => castTop (ef_rmMie0 m a1) k
 obtain ⟨T101, X101, e101, st101⟩ := getF X0 hx hZ hown (host := "") (Or.inl (tw hw 78 rfl)) Via.refl e0 Ml (g := (mkF m 1 #[vR a1] [(.ref a1)])) rfl rfl (hb hby d15_1)
 obtain ⟨cq102, kq102, q102a, q102b, q102c⟩ := isOf hZ e101 El
 obtain ⟨_, _, ⟨T102, L102, k102, n102⟩, -, X102, ⟨Lc102, hQ102, l102, y102, z102⟩, st102⟩ := X101.interfaceBack hx (xi := mN30) (y := mN28) hown (mvT hZ (tw hw 85 rfl)) (mvT hZ (tw hw 86 rfl)) (mvT hZ (tw hw 87 rfl)) (mvT hZ (tw hw 88 rfl)) (mvT hZ (tw hw 89 rfl)) (mvT hZ (tw hw 90 rfl)) (mvT hZ (tw hw 91 rfl)) (mvT hZ (tw hw 92 rfl)) (by decide) (backOf (W := 0) (rmAie0 l Z a0 hw [] x  h0 n0 O0 El Ln) hZ (tw hw 93 rfl) (tw hw 56 rfl) (by decide) (by decide)) q102a q102b q102c (g := (mkF m 4 #[vR a1] [(.ref x)])) rfl (by rw [hml]; rfl) (Steps.refl _) (argsL := []) (rest := []) (lenOf pd_10 rfl) rfl (wL _) (hb hby d15_4) (fun _ _ => ⟨rfl, e101, (by decide : 0 + 0 ≤ _), (by decide : 0 + 0 ≤ _)⟩)
 dsimp only [Pt.U, Pt.locs, Pt.cells, Pt.slots] at X102 l102 y102 z102 st102 hQ102
 rw [l102] at X102
 subst y102 z102
 obtain ⟨rfl, N102q, H102⟩ := hQ102
 have N102 := Fr.app N0 N102q
 obtain ⟨fs, hr, hrun, hended, hW, hsame⟩ := X102.leave (v := some (.int 1)) (nvr Bd.returns)
 refine ⟨_, _, pre0 _ ?_, hrun, hended, _, _, rfl, ?_, ⟨_, rfl⟩, hW, hsame.mono (by decide) (by decide)⟩
 ·skip
  show SS p e below s₁ m 0 #[vR a1] [] _
  refine XS.aloadN X0.here hx rfl (hb hby d15_0) rfl rfl ?_
  show SS p e below s₁ m 1 #[vR a1] [(.ref a1)] _
  refine st101 _ ?_
  show SS p e below T101 m 4 #[vR a1] [(.ref x)] _
  refine st102.trans ?_
  show SS p e below T102 m 9 #[vR a1] [(.int 1)] _
  exact retN X102 hx (t := .boolean) Bd.returns (by simp) (hb hby d15_9) hr
 ·show Q_rmMie0 Z a1 x h0 n0 _ T102.heap _
  rw [H102]
  exact ⟨rfl, N102, rfl⟩
theorem d16_11 : DK cD28 11 (.iconst 0) 1 := by decide +kernel
theorem ef_rmAie1 (m : MethodId) (y0 : Addr) : entryFrame m #[(.ref y0)] 1 = (mkF m 0 #[vR y0] []) := by first | (simp [entryFrame, mkF, argsToLocals, Value.category]; done) | rfl
def Q_rmAie1 (Z : State) (a1 : Addr) (h0 : Heap) (n0 : Nat) (v : Option Value) (h : Heap) (L : List Loc) : Prop := v = some (.int 0) ∧ Fr n0 L ∧ h = h0
theorem rmAie1 (l : Launch) (Z : State) (a0 : Array Value) (hw : HW a0 Z) (ws : List Jvm.Cond) (a1 : Addr) (h0 : Heap) (n0 : Nat) (O0 : Old Z n0 h0) (El : Exa Z h0 a1 "java/util/ArrayList") (Ln : Fld Z h0 a1 "java/util/ArrayList" "size" "I" (.int 1)) :
  MF l mN28 jdk_38_method_9_code 1 (some .boolean) ws (Rm 0 0 0 0) Z #[(.ref a1)] h0 (Q_rmAie1 Z a1 h0 n0) := by
 refine MetFree.of_bodySF (plainFor_of_name pn_12) hisR ?_
 intro p e s m args below meth c s₁ Bd hml0 hP hK
 obtain ⟨rfl, hZ, hh⟩ := hP
 have hx := Bd.exec
 have hby := Bd.bytes
 have hml : c.maxLocals = 1 := hml0
 have hown : s.vm.findClass "java/util/ArrayList" = some m.cls := findClass_of_methodNamed Bd.named
 have X0 : Stand p l e (Rm 0 0 0 0) s m #[(.ref a1)] below meth c s₁ [] 0 0 := Stand.of_body Bd
 have e0 : s₁.heap = h0 := by rw [← hh, Bd.state]; rfl
 have N0 := Fr.nil n0
 have hn0 : n0 ≤ h0.size := O0.1 ▸ O0.2.1
 have pre0 : ∀ t, SS p e below s₁ m 0 #[vR a1] [] t → SE p e below s₁ m #[(.ref a1)] 1 t := fun t k => castTop (ef_rmAie1 m a1) k
 obtain ⟨T101, X101, e101, st101⟩ := getF X0 hx hZ hown (host := "") (Or.inl (tw hw 94 rfl)) Via.refl e0 Ln (g := (mkF m 1 #[vR a1] [(.ref a1)])) rfl rfl (hb hby d16_1)
 obtain ⟨fs, hr, hrun, hended, hW, hsame⟩ := X101.leave (v := some (.int 0)) (nvr Bd.returns)
 refine ⟨_, _, pre0 _ ?_, hrun, hended, _, _, rfl, ?_, ⟨_, rfl⟩, hW, hsame.mono (by decide) (by decide)⟩
 ·skip
  show SS p e below s₁ m 0 #[vR a1] [] _
  refine XS.aloadN X0.here hx rfl (hb hby d16_0) rfl rfl ?_
  show SS p e below s₁ m 1 #[vR a1] [(.ref a1)] _
  refine st101 _ ?_
  refine XS.ifYes X101.here hx rfl (pc0 := 4) (pc' := 11) rfl (hb hby d16_4) rfl ((if0 _ _).trans (feq (by decide : ¬ ((1 : Int32) = (0 : Int32)))).2) (by decide) (by decide) ?_
  refine XS.iconst X101.here hx rfl (hb hby d16_11) ?_
  show SS p e below T101 m 12 #[vR a1] [(.int 0)] _
  exact retN X101 hx (t := .boolean) Bd.returns (by simp) (hb hby d16_12) hr
 ·show Q_rmAie1 Z a1 h0 n0 _ T101.heap _
  rw [e101]
  exact ⟨rfl, N0, rfl⟩
theorem ef_rmMie1 (m : MethodId) (y0 : Addr) : entryFrame m #[(.ref y0)] 1 = (mkF m 0 #[vR y0] []) := by first | (simp [entryFrame, mkF, argsToLocals, Value.category]; done) | rfl
def Q_rmMie1 (Z : State) (a1 : Addr) (x : Addr) (h0 : Heap) (n0 : Nat) (v : Option Value) (h : Heap) (L : List Loc) : Prop := v = some (.int 0) ∧ Fr n0 L ∧ h = h0
theorem rmMie1 (l : Launch) (Z : State) (a0 : Array Value) (hw : HW a0 Z) (ws : List Jvm.Cond) (a1 : Addr) (x : Addr) (h0 : Heap) (n0 : Nat) (O0 : Old Z n0 h0) (Em : Exa Z h0 a1 "com/example/nroute/nroute/route/Mistakes") (Ml : Fld Z h0 a1 "com/example/nroute/nroute/route/Mistakes" "lines" "Ljava/util/List;" (.ref x)) (El : Exa Z h0 x "java/util/ArrayList") (Ln : Fld Z h0 x "java/util/ArrayList" "size" "I" (.int 1)) :
  MF l mN29 prog_26_method_3_code 1 (some .boolean) ws (Rm 1 0 0 20) Z #[(.ref a1)] h0 (Q_rmMie1 Z a1 x h0 n0) := by
 refine MetFree.of_bodySF (plainFor_of_name pn_11) hisR ?_
 intro p e s m args below meth c s₁ Bd hml0 hP hK
 obtain ⟨rfl, hZ, hh⟩ := hP
 have hx := Bd.exec
 have hby := Bd.bytes
 have hml : c.maxLocals = 1 := hml0
 have hown : s.vm.findClass "com/example/nroute/nroute/route/Mistakes" = some m.cls := findClass_of_methodNamed Bd.named
 have X0 : Stand p l e (Rm 1 0 0 20) s m #[(.ref a1)] below meth c s₁ [] 0 0 := Stand.of_body Bd
 have e0 : s₁.heap = h0 := by rw [← hh, Bd.state]; rfl
 have N0 := Fr.nil n0
 have hn0 : n0 ≤ h0.size := O0.1 ▸ O0.2.1
 have pre0 : ∀ t, SS p e below s₁ m 0 #[vR a1] [] t → SE p e below s₁ m #[(.ref a1)] 1 t := fun t k => castTop (ef_rmMie1 m a1) k
 obtain ⟨T101, X101, e101, st101⟩ := getF X0 hx hZ hown (host := "") (Or.inl (tw hw 78 rfl)) Via.refl e0 Ml (g := (mkF m 1 #[vR a1] [(.ref a1)])) rfl rfl (hb hby d15_1)
 obtain ⟨cq102, kq102, q102a, q102b, q102c⟩ := isOf hZ e101 El
 obtain ⟨_, _, ⟨T102, L102, k102, n102⟩, -, X102, ⟨Lc102, hQ102, l102, y102, z102⟩, st102⟩ := X101.interfaceBack hx (xi := mN30) (y := mN28) hown (mvT hZ (tw hw 85 rfl)) (mvT hZ (tw hw 86 rfl)) (mvT hZ (tw hw 87 rfl)) (mvT hZ (tw hw 88 rfl)) (mvT hZ (tw hw 89 rfl)) (mvT hZ (tw hw 90 rfl)) (mvT hZ (tw hw 91 rfl)) (mvT hZ (tw hw 92 rfl)) (by decide) (backOf (W := 0) (rmAie1 l Z a0 hw [] x  h0 n0 O0 El Ln) hZ (tw hw 93 rfl) (tw hw 56 rfl) (by decide) (by decide)) q102a q102b q102c (g := (mkF m 4 #[vR a1] [(.ref x)])) rfl (by rw [hml]; rfl) (Steps.refl _) (argsL := []) (rest := []) (lenOf pd_10 rfl) rfl (wL _) (hb hby d15_4) (fun _ _ => ⟨rfl, e101, (by decide : 0 + 0 ≤ _), (by decide : 0 + 0 ≤ _)⟩)
 dsimp only [Pt.U, Pt.locs, Pt.cells, Pt.slots] at X102 l102 y102 z102 st102 hQ102
 rw [l102] at X102
 subst y102 z102
 obtain ⟨rfl, N102q, H102⟩ := hQ102
 have N102 := Fr.app N0 N102q
 obtain ⟨fs, hr, hrun, hended, hW, hsame⟩ := X102.leave (v := some (.int 0)) (nvr Bd.returns)
 refine ⟨_, _, pre0 _ ?_, hrun, hended, _, _, rfl, ?_, ⟨_, rfl⟩, hW, hsame.mono (by decide) (by decide)⟩
 ·skip
  show SS p e below s₁ m 0 #[vR a1] [] _
  refine XS.aloadN X0.here hx rfl (hb hby d15_0) rfl rfl ?_
  show SS p e below s₁ m 1 #[vR a1] [(.ref a1)] _
  refine st101 _ ?_
  show SS p e below T101 m 4 #[vR a1] [(.ref x)] _
  refine st102.trans ?_
  show SS p e below T102 m 9 #[vR a1] [(.int 0)] _
  exact retN X102 hx (t := .boolean) Bd.returns (by simp) (hb hby d15_9) hr
 ·show Q_rmMie1 Z a1 x h0 n0 _ T102.heap _
  rw [H102]
  exact ⟨rfl, N102, rfl⟩
theorem ef_rmAie2 (m : MethodId) (y0 : Addr) : entryFrame m #[(.ref y0)] 1 = (mkF m 0 #[vR y0] []) := by first | (simp [entryFrame, mkF, argsToLocals, Value.category]; done) | rfl
def Q_rmAie2 (Z : State) (a1 : Addr) (h0 : Heap) (n0 : Nat) (v : Option Value) (h : Heap) (L : List Loc) : Prop := v = some (.int 0) ∧ Fr n0 L ∧ h = h0
theorem rmAie2 (l : Launch) (Z : State) (a0 : Array Value) (hw : HW a0 Z) (ws : List Jvm.Cond) (a1 : Addr) (h0 : Heap) (n0 : Nat) (O0 : Old Z n0 h0) (El : Exa Z h0 a1 "java/util/ArrayList") (Ln : Fld Z h0 a1 "java/util/ArrayList" "size" "I" (.int 2)) :
  MF l mN28 jdk_38_method_9_code 1 (some .boolean) ws (Rm 0 0 0 0) Z #[(.ref a1)] h0 (Q_rmAie2 Z a1 h0 n0) := by
 refine MetFree.of_bodySF (plainFor_of_name pn_12) hisR ?_
 intro p e s m args below meth c s₁ Bd hml0 hP hK
 obtain ⟨rfl, hZ, hh⟩ := hP
 have hx := Bd.exec
 have hby := Bd.bytes
 have hml : c.maxLocals = 1 := hml0
 have hown : s.vm.findClass "java/util/ArrayList" = some m.cls := findClass_of_methodNamed Bd.named
 have X0 : Stand p l e (Rm 0 0 0 0) s m #[(.ref a1)] below meth c s₁ [] 0 0 := Stand.of_body Bd
 have e0 : s₁.heap = h0 := by rw [← hh, Bd.state]; rfl
 have N0 := Fr.nil n0
 have hn0 : n0 ≤ h0.size := O0.1 ▸ O0.2.1
 have pre0 : ∀ t, SS p e below s₁ m 0 #[vR a1] [] t → SE p e below s₁ m #[(.ref a1)] 1 t := fun t k => castTop (ef_rmAie2 m a1) k
 obtain ⟨T101, X101, e101, st101⟩ := getF X0 hx hZ hown (host := "") (Or.inl (tw hw 94 rfl)) Via.refl e0 Ln (g := (mkF m 1 #[vR a1] [(.ref a1)])) rfl rfl (hb hby d16_1)
 obtain ⟨fs, hr, hrun, hended, hW, hsame⟩ := X101.leave (v := some (.int 0)) (nvr Bd.returns)
 refine ⟨_, _, pre0 _ ?_, hrun, hended, _, _, rfl, ?_, ⟨_, rfl⟩, hW, hsame.mono (by decide) (by decide)⟩
 ·skip
  show SS p e below s₁ m 0 #[vR a1] [] _
  refine XS.aloadN X0.here hx rfl (hb hby d16_0) rfl rfl ?_
  show SS p e below s₁ m 1 #[vR a1] [(.ref a1)] _
  refine st101 _ ?_
  refine XS.ifYes X101.here hx rfl (pc0 := 4) (pc' := 11) rfl (hb hby d16_4) rfl ((if0 _ _).trans (feq (by decide : ¬ ((2 : Int32) = (0 : Int32)))).2) (by decide) (by decide) ?_
  refine XS.iconst X101.here hx rfl (hb hby d16_11) ?_
  show SS p e below T101 m 12 #[vR a1] [(.int 0)] _
  exact retN X101 hx (t := .boolean) Bd.returns (by simp) (hb hby d16_12) hr
 ·show Q_rmAie2 Z a1 h0 n0 _ T101.heap _
  rw [e101]
  exact ⟨rfl, N0, rfl⟩
theorem ef_rmMie2 (m : MethodId) (y0 : Addr) : entryFrame m #[(.ref y0)] 1 = (mkF m 0 #[vR y0] []) := by first | (simp [entryFrame, mkF, argsToLocals, Value.category]; done) | rfl
def Q_rmMie2 (Z : State) (a1 : Addr) (x : Addr) (h0 : Heap) (n0 : Nat) (v : Option Value) (h : Heap) (L : List Loc) : Prop := v = some (.int 0) ∧ Fr n0 L ∧ h = h0
theorem rmMie2 (l : Launch) (Z : State) (a0 : Array Value) (hw : HW a0 Z) (ws : List Jvm.Cond) (a1 : Addr) (x : Addr) (h0 : Heap) (n0 : Nat) (O0 : Old Z n0 h0) (Em : Exa Z h0 a1 "com/example/nroute/nroute/route/Mistakes") (Ml : Fld Z h0 a1 "com/example/nroute/nroute/route/Mistakes" "lines" "Ljava/util/List;" (.ref x)) (El : Exa Z h0 x "java/util/ArrayList") (Ln : Fld Z h0 x "java/util/ArrayList" "size" "I" (.int 2)) :
  MF l mN29 prog_26_method_3_code 1 (some .boolean) ws (Rm 1 0 0 20) Z #[(.ref a1)] h0 (Q_rmMie2 Z a1 x h0 n0) := by
 refine MetFree.of_bodySF (plainFor_of_name pn_11) hisR ?_
 intro p e s m args below meth c s₁ Bd hml0 hP hK
 obtain ⟨rfl, hZ, hh⟩ := hP
 have hx := Bd.exec
 have hby := Bd.bytes
 have hml : c.maxLocals = 1 := hml0
 have hown : s.vm.findClass "com/example/nroute/nroute/route/Mistakes" = some m.cls := findClass_of_methodNamed Bd.named
 have X0 : Stand p l e (Rm 1 0 0 20) s m #[(.ref a1)] below meth c s₁ [] 0 0 := Stand.of_body Bd
 have e0 : s₁.heap = h0 := by rw [← hh, Bd.state]; rfl
 have N0 := Fr.nil n0
 have hn0 : n0 ≤ h0.size := O0.1 ▸ O0.2.1
 have pre0 : ∀ t, SS p e below s₁ m 0 #[vR a1] [] t → SE p e below s₁ m #[(.ref a1)] 1 t := fun t k => castTop (ef_rmMie2 m a1) k
 obtain ⟨T101, X101, e101, st101⟩ := getF X0 hx hZ hown (host := "") (Or.inl (tw hw 78 rfl)) Via.refl e0 Ml (g := (mkF m 1 #[vR a1] [(.ref a1)])) rfl rfl (hb hby d15_1)
 obtain ⟨cq102, kq102, q102a, q102b, q102c⟩ := isOf hZ e101 El
 obtain ⟨_, _, ⟨T102, L102, k102, n102⟩, -, X102, ⟨Lc102, hQ102, l102, y102, z102⟩, st102⟩ := X101.interfaceBack hx (xi := mN30) (y := mN28) hown (mvT hZ (tw hw 85 rfl)) (mvT hZ (tw hw 86 rfl)) (mvT hZ (tw hw 87 rfl)) (mvT hZ (tw hw 88 rfl)) (mvT hZ (tw hw 89 rfl)) (mvT hZ (tw hw 90 rfl)) (mvT hZ (tw hw 91 rfl)) (mvT hZ (tw hw 92 rfl)) (by decide) (backOf (W := 0) (rmAie2 l Z a0 hw [] x  h0 n0 O0 El Ln) hZ (tw hw 93 rfl) (tw hw 56 rfl) (by decide) (by decide)) q102a q102b q102c (g := (mkF m 4 #[vR a1] [(.ref x)])) rfl (by rw [hml]; rfl) (Steps.refl _) (argsL := []) (rest := []) (lenOf pd_10 rfl) rfl (wL _) (hb hby d15_4) (fun _ _ => ⟨rfl, e101, (by decide : 0 + 0 ≤ _), (by decide : 0 + 0 ≤ _)⟩)
 dsimp only [Pt.U, Pt.locs, Pt.cells, Pt.slots] at X102 l102 y102 z102 st102 hQ102
 rw [l102] at X102
 subst y102 z102
 obtain ⟨rfl, N102q, H102⟩ := hQ102
 have N102 := Fr.app N0 N102q
 obtain ⟨fs, hr, hrun, hended, hW, hsame⟩ := X102.leave (v := some (.int 0)) (nvr Bd.returns)
 refine ⟨_, _, pre0 _ ?_, hrun, hended, _, _, rfl, ?_, ⟨_, rfl⟩, hW, hsame.mono (by decide) (by decide)⟩
 ·skip
  show SS p e below s₁ m 0 #[vR a1] [] _
  refine XS.aloadN X0.here hx rfl (hb hby d15_0) rfl rfl ?_
  show SS p e below s₁ m 1 #[vR a1] [(.ref a1)] _
  refine st101 _ ?_
  show SS p e below T101 m 4 #[vR a1] [(.ref x)] _
  refine st102.trans ?_
  show SS p e below T102 m 9 #[vR a1] [(.int 0)] _
  exact retN X102 hx (t := .boolean) Bd.returns (by simp) (hb hby d15_9) hr
 ·show Q_rmMie2 Z a1 x h0 n0 _ T102.heap _
  rw [H102]
  exact ⟨rfl, N102, rfl⟩
theorem d20_0 : DK cD30 0 (.getstatic 90) 3 := by decide +kernel
theorem d20_3 : DK cD30 3 (.areturn) 1 := by decide +kernel
theorem pn_18 : plainName "java/util/List" = true := by first | (simp [plainName, overriddenIn]; done) | decide +kernel
theorem ef_rmLof (m : MethodId) : entryFrame m #[] 0 = (mkF m 0 #[] []) := by first | (simp [entryFrame, mkF, argsToLocals, Value.category]; done) | rfl
def Q_rmLof (Z : State) (el : Addr) (h0 : Heap) (n0 : Nat) (v : Option Value) (h : Heap) (L : List Loc) : Prop := v = some (.ref el) ∧ Fr n0 L ∧ h = h0
theorem rmLof (l : Launch) (Z : State) (a0 : Array Value) (hw : HW a0 Z) (ws : List Jvm.Cond) (el : Addr) (h0 : Heap) (n0 : Nat) (O0 : Old Z n0 h0) (S_EL : Sta Z Z.heap "java/util/ImmutableCollections" "EMPTY_LIST" "Ljava/util/ImmutableCollections$ListN;" (.ref el)) :
  MF l mN31 jdk_40_method_36_code 0 (some (.object "java/util/List")) ws (Rm 0 0 0 0) Z #[] h0 (Q_rmLof Z el h0 n0) := by
 refine MetFree.of_bodySF (plainFor_of_name pn_18) hisR ?_
 intro p e s m args below meth c s₁ Bd hml0 hP hK
 obtain ⟨rfl, hZ, hh⟩ := hP
 have hx := Bd.exec
 have hby := Bd.bytes
 have hml : c.maxLocals = 0 := hml0
 have hown : s.vm.findClass "java/util/List" = some m.cls := findClass_of_methodNamed Bd.named
 have X0 : Stand p l e (Rm 0 0 0 0) s m #[] below meth c s₁ [] 0 0 := Stand.of_body Bd
 have e0 : s₁.heap = h0 := by rw [← hh, Bd.state]; rfl
 have N0 := Fr.nil n0
 have hn0 : n0 ≤ h0.size := O0.1 ▸ O0.2.1
 have pre0 : ∀ t, SS p e below s₁ m 0 #[] [] t → SE p e below s₁ m #[] 0 t := fun t k => castTop (ef_rmLof m ) k
 obtain ⟨T101, X101, e101, st101⟩ := getS2 X0 hx hZ hown (host := "") (Or.inl (tw hw 123 rfl)) Via.refl e0 (Sta.ext O0.2 S_EL) (g := (mkF m 0 #[] [])) rfl (hb hby d20_0)
 obtain ⟨fs, hr, hrun, hended, hW, hsame⟩ := X101.leave (v := some (.ref el)) (nvr Bd.returns)
 refine ⟨_, _, pre0 _ ?_, hrun, hended, _, _, rfl, ?_, ⟨_, rfl⟩, hW, hsame.mono (by decide) (by decide)⟩
 ·skip
  show SS p e below s₁ m 0 #[] [] _
  refine st101 _ ?_
  show SS p e below T101 m 3 #[] [(.ref el)] _
  exact X101.areturnOut hx rfl Bd.returns rfl (hb hby d20_3) hr
 ·show Q_rmLof Z el h0 n0 _ T101.heap _
  rw [e101]
  exact ⟨rfl, N0, rfl⟩
theorem d19_0 : DK cD31 0 (.aload_n 0) 1 := by decide +kernel
theorem d19_1 : DK cD31 1 (.instanceof 10) 3 := by decide +kernel
theorem d19_4 : DK cD31 4 (.ifCond .ne 22) 3 := by decide +kernel
theorem d19_7 : DK cD31 7 (.aload_n 0) 1 := by decide +kernel
theorem d19_8 : DK cD31 8 (.instanceof 12) 3 := by decide +kernel
theorem d19_11 : DK cD31 11 (.ifCond .eq 20) 3 := by decide +kernel
theorem d19_31 : DK cD31 31 (.aload_n 0) 1 := by decide +kernel
theorem d19_32 : DK cD31 32 (.invokeinterface 20 1) 5 := by decide +kernel
theorem d19_37 : DK cD31 37 (.ifCond .eq 7) 3 := by decide +kernel
theorem d19_40 : DK cD31 40 (.invokestatic 26) 3 := by decide +kernel
theorem d19_43 : DK cD31 43 (.areturn) 1 := by decide +kernel
theorem pn_19 : plainName "java/util/ImmutableCollections" = true := by first | (simp [plainName, overriddenIn]; done) | decide +kernel
theorem pd_11 : parseMethodDescriptor "()Ljava/util/List;" = some ⟨[], some (.object "java/util/List")⟩ := by decide +kernel
theorem ef_rmLc0 (m : MethodId) (y0 : Addr) : entryFrame m #[(.ref y0)] 2 = (mkF m 0 #[vR y0, .unset] []) := by first | (simp [entryFrame, mkF, argsToLocals, Value.category]; done) | rfl
def Q_rmLc0 (Z : State) (a1 : Addr) (el : Addr) (h0 : Heap) (n0 : Nat) (v : Option Value) (h : Heap) (L : List Loc) : Prop := v = some (.ref el) ∧ Fr n0 L ∧ h = h0
theorem rmLc0 (l : Launch) (Z : State) (a0 : Array Value) (hw : HW a0 Z) (ws : List Jvm.Cond) (a1 : Addr) (el : Addr) (h0 : Heap) (n0 : Nat) (O0 : Old Z n0 h0) (S_EL : Sta Z Z.heap "java/util/ImmutableCollections" "EMPTY_LIST" "Ljava/util/ImmutableCollections$ListN;" (.ref el)) (El : Exa Z h0 a1 "java/util/ArrayList") (Ln : Fld Z h0 a1 "java/util/ArrayList" "size" "I" (.int 0)) :
  MF l mN32 jdk_56_method_3_code 2 (some (.object "java/util/List")) ws (Rm 1 0 0 24) Z #[(.ref a1)] h0 (Q_rmLc0 Z a1 el h0 n0) := by
 refine MetFree.of_bodySF (plainFor_of_name pn_19) hisR ?_
 intro p e s m args below meth c s₁ Bd hml0 hP hK
 obtain ⟨rfl, hZ, hh⟩ := hP
 have hx := Bd.exec
 have hby := Bd.bytes
 have hml : c.maxLocals = 2 := hml0
 have hown : s.vm.findClass "java/util/ImmutableCollections" = some m.cls := findClass_of_methodNamed Bd.named
 have X0 : Stand p l e (Rm 1 0 0 24) s m #[(.ref a1)] below meth c s₁ [] 0 0 := Stand.of_body Bd
 have e0 : s₁.heap = h0 := by rw [← hh, Bd.state]; rfl
 have N0 := Fr.nil n0
 have hn0 : n0 ≤ h0.size := O0.1 ▸ O0.2.1
 have pre0 : ∀ t, SS p e below s₁ m 0 #[vR a1, .unset] [] t → SE p e below s₁ m #[(.ref a1)] 2 t := fun t k => castTop (ef_rmLc0 m a1) k
 obtain ⟨T101, X101, e101, st101⟩ := instNo X0 hx hZ hown (tw hw 109 rfl) e0 El (own_noinst (tw hw 110 rfl) (tw hw 111 rfl) (tw hw 112 rfl) (tw hw 113 rfl) (tw hw 338 rfl) rfl (by decide) (by decide) (by decide) (by decide)) (g := (mkF m 1 #[vR a1, .unset] [(.ref a1)])) rfl rfl (hb hby d19_1)
 obtain ⟨T102, X102, e102, st102⟩ := instNo X101 hx hZ hown (tw hw 114 rfl) e101 El (own_noinst (tw hw 110 rfl) (tw hw 111 rfl) (tw hw 112 rfl) (tw hw 113 rfl) (tw hw 127 rfl) rfl (by decide) (by decide) (by decide) (by decide)) (g := (mkF m 8 #[vR a1, .unset] [(.ref a1)])) rfl rfl (hb hby d19_8)
 obtain ⟨cq103, kq103, q103a, q103b, q103c⟩ := isOf hZ e102 El
 obtain ⟨_, _, ⟨T103, L103, k103, n103⟩, -, X103, ⟨Lc103, hQ103, l103, y103, z103⟩, st103⟩ := X102.interfaceBack hx (xi := mN33) (y := mN28) hown (mvT hZ (tw hw 115 rfl)) (mvT hZ (tw hw 116 rfl)) (mvT hZ (tw hw 117 rfl)) (mvT hZ (tw hw 118 rfl)) (mvT hZ (tw hw 89 rfl)) (mvT hZ (tw hw 90 rfl)) (mvT hZ (tw hw 91 rfl)) (mvT hZ (tw hw 119 rfl)) (by decide) (backOf (W := 0) (rmAie0 l Z a0 hw [] a1  h0 n0 O0 El Ln) hZ (tw hw 93 rfl) (tw hw 56 rfl) (by decide) (by decide)) q103a q103b q103c (g := (mkF m 32 #[vR a1, .unset] [(.ref a1)])) rfl (by rw [hml]; rfl) (Steps.refl _) (argsL := []) (rest := []) (lenOf pd_10 rfl) rfl (wL _) (hb hby d19_32) (fun _ _ => ⟨rfl, e102, (by decide : 0 + 0 ≤ _), (by decide : 0 + 0 ≤ _)⟩)
 dsimp only [Pt.U, Pt.locs, Pt.cells, Pt.slots] at X103 l103 y103 z103 st103 hQ103
 rw [l103] at X103
 subst y103 z103
 obtain ⟨rfl, N103q, H103⟩ := hQ103
 have N103 := Fr.app N0 N103q
 obtain ⟨_, _, ⟨T104, L104, k104, n104⟩, -, X104, ⟨Lc104, hQ104, l104, y104, z104⟩, st104⟩ := Jvm.LawKit.callS X103 hx (y := mN31) hown (mvT hZ (tw hw 120 rfl)) (mvT hZ (tw hw 121 rfl)) (mvT hZ (tw hw 103 rfl)) (mvT hZ (tw hw 122 rfl)) (by decide) (backOf (W := 0) (rmLof l Z a0 hw []  el h0 n0 O0 S_EL) hZ (tw hw 122 rfl) (tw hw 103 rfl) (by decide) (by decide)) (g := (mkF m 40 #[vR a1, .unset] [])) rfl (by rw [hml]; rfl) (argsL := []) (rest := []) (lenOf pd_11 rfl) rfl (wL _) (hb hby d19_40) (fun _ _ => ⟨rfl, H103, (by decide : 0 + 0 ≤ _), (by decide : 0 + 0 ≤ _)⟩)
 dsimp only [Pt.U, Pt.locs, Pt.cells, Pt.slots] at X104 l104 y104 z104 st104 hQ104
 rw [l104] at X104
 subst y104 z104
 obtain ⟨rfl, N104q, H104⟩ := hQ104
 have N104 := Fr.app N103 N104q
 obtain ⟨fs, hr, hrun, hended, hW, hsame⟩ := X104.leave (v := some (.ref el)) (nvr Bd.returns)
 refine ⟨_, _, pre0 _ ?_, hrun, hended, _, _, rfl, ?_, ⟨_, rfl⟩, hW, hsame.mono (by decide) (by decide)⟩
 ·skip
  show SS p e below s₁ m 0 #[vR a1, .unset] [] _
  refine XS.aloadN X0.here hx rfl (hb hby d19_0) rfl rfl ?_
  show SS p e below s₁ m 1 #[vR a1, .unset] [(.ref a1)] _
  refine st101 _ ?_
  refine XS.ifNo X101.here hx rfl (hb hby d19_4) rfl ((if0 _ _).trans (teq (by decide : (0 : Int32) = (0 : Int32))).2) ?_
  refine XS.aloadN X101.here hx rfl (hb hby d19_7) rfl rfl ?_
  show SS p e below T101 m 8 #[vR a1, .unset] [(.ref a1)] _
  refine st102 _ ?_
  refine XS.ifYes X102.here hx rfl (pc0 := 11) (pc' := 31) rfl (hb hby d19_11) rfl ((if0 _ _).trans (teq (by decide : (0 : Int32) = (0 : Int32))).1) (by decide) (by decide) ?_
  refine XS.aloadN X102.here hx rfl (hb hby d19_31) rfl rfl ?_
  show SS p e below T102 m 32 #[vR a1, .unset] [(.ref a1)] _
  refine st103.trans ?_
  refine XS.ifNo X103.here hx rfl (hb hby d19_37) rfl ((if0 _ _).trans (feq (by decide : ¬ ((1 : Int32) = (0 : Int32)))).1) ?_
  show SS p e below T103 m 40 #[vR a1, .unset] [] _
  refine st104 _ ?_
  show SS p e below T104 m 43 #[vR a1, .unset] [(.ref el)] _
  exact X104.areturnOut hx rfl Bd.returns rfl (hb hby d19_43) hr
 ·show Q_rmLc0 Z a1 el h0 n0 _ T104.heap _
  rw [H104]
  exact ⟨rfl, N104, rfl⟩
theorem d18_0 : DK cD32 0 (.aload_n 0) 1 := by decide +kernel
theorem d18_1 : DK cD32 1 (.invokestatic 112) 3 := by decide +kernel
theorem d18_4 : DK cD32 4 (.areturn) 1 := by decide +kernel
theorem pd_12 : parseMethodDescriptor "(Ljava/util/Collection;)Ljava/util/List;" = some ⟨[(.object "java/util/Collection")], some (.object "java/util/List")⟩ := by decide +kernel
theorem ef_rmCo0 (m : MethodId) (y0 : Addr) : entryFrame m #[(.ref y0)] 1 = (mkF m 0 #[vR y0] []) := by first | (simp [entryFrame, mkF, argsToLocals, Value.category]; done) | rfl
def Q_rmCo0 (Z : State) (a1 : Addr) (el : Addr) (h0 : Heap) (n0 : Nat) (v : Option Value) (h : Heap) (L : List Loc) : Prop := v = some (.ref el) ∧ Fr n0 L ∧ h = h0
theorem rmCo0 (l : Launch) (Z : State) (a0 : Array Value) (hw : HW a0 Z) (ws : List Jvm.Cond) (a1 : Addr) (el : Addr) (h0 : Heap) (n0 : Nat) (O0 : Old Z n0 h0) (S_EL : Sta Z Z.heap "java/util/ImmutableCollections" "EMPTY_LIST" "Ljava/util/ImmutableCollections$ListN;" (.ref el)) (El : Exa Z h0 a1 "java/util/ArrayList") (Ln : Fld Z h0 a1 "java/util/ArrayList" "size" "I" (.int 0)) :
  MF l mN34 jdk_40_method_48_code 1 (some (.object "java/util/List")) ws (Rm 2 0 0 40) Z #[(.ref a1)] h0 (Q_rmCo0 Z a1 el h0 n0) := by
 refine MetFree.of_bodySF (plainFor_of_name pn_18) hisR ?_
 intro p e s m args below meth c s₁ Bd hml0 hP hK
 obtain ⟨rfl, hZ, hh⟩ := hP
 have hx := Bd.exec
 have hby := Bd.bytes
 have hml : c.maxLocals = 1 := hml0
 have hown : s.vm.findClass "java/util/List" = some m.cls := findClass_of_methodNamed Bd.named
 have X0 : Stand p l e (Rm 2 0 0 40) s m #[(.ref a1)] below meth c s₁ [] 0 0 := Stand.of_body Bd
 have e0 : s₁.heap = h0 := by rw [← hh, Bd.state]; rfl
 have N0 := Fr.nil n0
 have hn0 : n0 ≤ h0.size := O0.1 ▸ O0.2.1
 have pre0 : ∀ t, SS p e below s₁ m 0 #[vR a1] [] t → SE p e below s₁ m #[(.ref a1)] 1 t := fun t k => castTop (ef_rmCo0 m a1) k
 obtain ⟨_, _, ⟨T101, L101, k101, n101⟩, -, X101, ⟨Lc101, hQ101, l101, y101, z101⟩, st101⟩ := Jvm.LawKit.callS X0 hx (y := mN32) hown (mvT hZ (tw hw 105 rfl)) (mvT hZ (tw hw 106 rfl)) (mvT hZ (tw hw 107 rfl)) (mvT hZ (tw hw 108 rfl)) (by decide) (backOf (W := 0) (rmLc0 l Z a0 hw [] a1 el h0 n0 O0 S_EL El Ln) hZ (tw hw 108 rfl) (tw hw 107 rfl) (by decide) (by decide)) (g := (mkF m 1 #[vR a1] [(.ref a1)])) rfl (by rw [hml]; rfl) (argsL := [(.ref a1)]) (rest := []) (lenOf pd_12 rfl) rfl (wL _) (hb hby d18_1) (fun _ _ => ⟨rfl, e0, (by decide : 0 + 0 ≤ _), (by decide : 0 + 0 ≤ _)⟩)
 dsimp only [Pt.U, Pt.locs, Pt.cells, Pt.slots] at X101 l101 y101 z101 st101 hQ101
 rw [l101] at X101
 subst y101 z101
 obtain ⟨rfl, N101q, H101⟩ := hQ101
 have N101 := Fr.app N0 N101q
 obtain ⟨fs, hr, hrun, hended, hW, hsame⟩ := X101.leave (v := some (.ref el)) (nvr Bd.returns)
 refine ⟨_, _, pre0 _ ?_, hrun, hended, _, _, rfl, ?_, ⟨_, rfl⟩, hW, hsame.mono (by decide) (by decide)⟩
 ·skip
  show SS p e below s₁ m 0 #[vR a1] [] _
  refine XS.aloadN X0.here hx rfl (hb hby d18_0) rfl rfl ?_
  show SS p e below s₁ m 1 #[vR a1] [(.ref a1)] _
  refine st101 _ ?_
  show SS p e below T101 m 4 #[vR a1] [(.ref el)] _
  exact X101.areturnOut hx rfl Bd.returns rfl (hb hby d18_4) hr
 ·show Q_rmCo0 Z a1 el h0 n0 _ T101.heap _
  rw [H101]
  exact ⟨rfl, N101, rfl⟩
theorem d17_0 : DK cD33 0 (.aload_n 0) 1 := by decide +kernel
theorem d17_1 : DK cD33 1 (.getfield 10) 3 := by decide +kernel
theorem d17_4 : DK cD33 4 (.invokestatic 41) 3 := by decide +kernel
theorem d17_7 : DK cD33 7 (.areturn) 1 := by decide +kernel
theorem ef_rmLi0 (m : MethodId) (y0 : Addr) : entryFrame m #[(.ref y0)] 1 = (mkF m 0 #[vR y0] []) := by first | (simp [entryFrame, mkF, argsToLocals, Value.category]; done) | rfl
def Q_rmLi0 (Z : State) (a1 : Addr) (el x : Addr) (h0 : Heap) (n0 : Nat) (v : Option Value) (h : Heap) (L : List Loc) : Prop := v = some (.ref el) ∧ Fr n0 L ∧ h = h0
theorem rmLi0 (l : Launch) (Z : State) (a0 : Array Value) (hw : HW a0 Z) (ws : List Jvm.Cond) (a1 : Addr) (el x : Addr) (h0 : Heap) (n0 : Nat) (O0 : Old Z n0 h0) (S_EL : Sta Z Z.heap "java/util/ImmutableCollections" "EMPTY_LIST" "Ljava/util/ImmutableCollections$ListN;" (.ref el)) (Em : Exa Z h0 a1 "com/example/nroute/nroute/route/Mistakes") (Ml : Fld Z h0 a1 "com/example/nroute/nroute/route/Mistakes" "lines" "Ljava/util/List;" (.ref x)) (El : Exa Z h0 x "java/util/ArrayList") (Ln : Fld Z h0 x "java/util/ArrayList" "size" "I" (.int 0)) :
  MF l mN35 prog_26_method_4_code 1 (some (.object "java/util/List")) ws (Rm 3 0 0 60) Z #[(.ref a1)] h0 (Q_rmLi0 Z a1 el x h0 n0) := by
 refine MetFree.of_bodySF (plainFor_of_name pn_11) hisR ?_
 intro p e s m args below meth c s₁ Bd hml0 hP hK
 obtain ⟨rfl, hZ, hh⟩ := hP
 have hx := Bd.exec
 have hby := Bd.bytes
 have hml : c.maxLocals = 1 := hml0
 have hown : s.vm.findClass "com/example/nroute/nroute/route/Mistakes" = some m.cls := findClass_of_methodNamed Bd.named
 have X0 : Stand p l e (Rm 3 0 0 60) s m #[(.ref a1)] below meth c s₁ [] 0 0 := Stand.of_body Bd
 have e0 : s₁.heap = h0 := by rw [← hh, Bd.state]; rfl
 have N0 := Fr.nil n0
 have hn0 : n0 ≤ h0.size := O0.1 ▸ O0.2.1
 have pre0 : ∀ t, SS p e below s₁ m 0 #[vR a1] [] t → SE p e below s₁ m #[(.ref a1)] 1 t := fun t k => castTop (ef_rmLi0 m a1) k
 obtain ⟨T101, X101, e101, st101⟩ := getF X0 hx hZ hown (host := "") (Or.inl (tw hw 78 rfl)) Via.refl e0 Ml (g := (mkF m 1 #[vR a1] [(.ref a1)])) rfl rfl (hb hby d17_1)
 obtain ⟨_, _, ⟨T102, L102, k102, n102⟩, -, X102, ⟨Lc102, hQ102, l102, y102, z102⟩, st102⟩ := Jvm.LawKit.callS X101 hx (y := mN34) hown (mvT hZ (tw hw 101 rfl)) (mvT hZ (tw hw 102 rfl)) (mvT hZ (tw hw 103 rfl)) (mvT hZ (tw hw 104 rfl)) (by decide) (backOf (W := 0) (rmCo0 l Z a0 hw [] x el h0 n0 O0 S_EL El Ln) hZ (tw hw 104 rfl) (tw hw 103 rfl) (by decide) (by decide)) (g := (mkF m 4 #[vR a1] [(.ref x)])) rfl (by rw [hml]; rfl) (argsL := [(.ref x)]) (rest := []) (lenOf pd_12 rfl) rfl (wL _) (hb hby d17_4) (fun _ _ => ⟨rfl, e101, (by decide : 0 + 0 ≤ _), (by decide : 0 + 0 ≤ _)⟩)
 dsimp only [Pt.U, Pt.locs, Pt.cells, Pt.slots] at X102 l102 y102 z102 st102 hQ102
 rw [l102] at X102
 subst y102 z102
 obtain ⟨rfl, N102q, H102⟩ := hQ102
 have N102 := Fr.app N0 N102q
 obtain ⟨fs, hr, hrun, hended, hW, hsame⟩ := X102.leave (v := some (.ref el)) (nvr Bd.returns)
 refine ⟨_, _, pre0 _ ?_, hrun, hended, _, _, rfl, ?_, ⟨_, rfl⟩, hW, hsame.mono (by decide) (by decide)⟩
 ·skip
  show SS p e below s₁ m 0 #[vR a1] [] _
  refine XS.aloadN X0.here hx rfl (hb hby d17_0) rfl rfl ?_
  show SS p e below s₁ m 1 #[vR a1] [(.ref a1)] _
  refine st101 _ ?_
  show SS p e below T101 m 4 #[vR a1] [(.ref x)] _
  refine st102 _ ?_
  show SS p e below T102 m 7 #[vR a1] [(.ref el)] _
  exact X102.areturnOut hx rfl Bd.returns rfl (hb hby d17_7) hr
 ·show Q_rmLi0 Z a1 el x h0 n0 _ T102.heap _
  rw [H102]
  exact ⟨rfl, N102, rfl⟩
theorem d21_0 : DK cD34 0 (.aload_n 0) 1 := by decide +kernel
theorem d21_1 : DK cD34 1 (.getfield 7) 3 := by decide +kernel
theorem d21_4 : DK cD34 4 (.arraylength) 1 := by decide +kernel
theorem d21_5 : DK cD34 5 (.ireturn) 1 := by decide +kernel
theorem pn_21 : plainName "java/util/ImmutableCollections$ListN" = true := by first | (simp [plainName, overriddenIn]; done) | decide +kernel
theorem ef_rmNsz (m : MethodId) (y0 : Addr) : entryFrame m #[(.ref y0)] 1 = (mkF m 0 #[vR y0] []) := by first | (simp [entryFrame, mkF, argsToLocals, Value.category]; done) | rfl
def Q_rmNsz (Z : State) (a1 : Addr) (ea : Addr) (kE : ClassId) (h0 : Heap) (n0 : Nat) (v : Option Value) (h : Heap) (L : List Loc) : Prop := v = some (.int 0) ∧ Fr n0 L ∧ h = h0
theorem rmNsz (l : Launch) (Z : State) (a0 : Array Value) (hw : HW a0 Z) (ws : List Jvm.Cond) (a1 : Addr) (ea : Addr) (kE : ClassId) (h0 : Heap) (n0 : Nat) (O0 : Old Z n0 h0) (En : Exa Z h0 a1 "java/util/ImmutableCollections$ListN") (Nf : Fld Z h0 a1 "java/util/ImmutableCollections$ListN" "elements" "[Ljava/lang/Object;" (.ref ea)) (Vn : Arv Z h0 ea kE (.object "java/lang/Object") (0 : Int32) [] .null) :
  MF l mN36 jdk_45_method_3_code 1 (some .int) ws (Rm 0 0 0 0) Z #[(.ref a1)] h0 (Q_rmNsz Z a1 ea kE h0 n0) := by
 refine MetFree.of_bodySF (plainFor_of_name pn_21) hisR ?_
 intro p e s m args below meth c s₁ Bd hml0 hP hK
 obtain ⟨rfl, hZ, hh⟩ := hP
 have hx := Bd.exec
 have hby := Bd.bytes
 have hml : c.maxLocals = 1 := hml0
 have hown : s.vm.findClass "java/util/ImmutableCollections$ListN" = some m.cls := findClass_of_methodNamed Bd.named
 have X0 : Stand p l e (Rm 0 0 0 0) s m #[(.ref a1)] below meth c s₁ [] 0 0 := Stand.of_body Bd
 have e0 : s₁.heap = h0 := by rw [← hh, Bd.state]; rfl
 have N0 := Fr.nil n0
 have hn0 : n0 ≤ h0.size := O0.1 ▸ O0.2.1
 have pre0 : ∀ t, SS p e below s₁ m 0 #[vR a1] [] t → SE p e below s₁ m #[(.ref a1)] 1 t := fun t k => castTop (ef_rmNsz m a1) k
 obtain ⟨T101, X101, e101, st101⟩ := getF X0 hx hZ hown (host := "") (Or.inl (tw hw 134 rfl)) Via.refl e0 Nf (g := (mkF m 1 #[vR a1] [(.ref a1)])) rfl rfl (hb hby d21_1)
 obtain ⟨cl102, Ar102, q102, S102, Nn102, H102, G102⟩ := id Vn
 obtain ⟨fs, hr, hrun, hended, hW, hsame⟩ := X101.leave (v := some (.int 0)) (nvr Bd.returns)
 refine ⟨_, _, pre0 _ ?_, hrun, hended, _, _, rfl, ?_, ⟨_, rfl⟩, hW, hsame.mono (by decide) (by decide)⟩
 ·skip
  show SS p e below s₁ m 0 #[vR a1] [] _
  refine XS.aloadN X0.here hx rfl (hb hby d21_0) rfl rfl ?_
  show SS p e below s₁ m 1 #[vR a1] [(.ref a1)] _
  refine st101 _ ?_
  show SS p e below T101 m 4 #[vR a1] [(.ref ea)] _
  refine X101.arraylength hx (by rw [e101]; exact Ar102.1) (State.isArrayOf_alike hZ.alike Ar102.2.1) (g := (mkF m 4 #[vR a1] [(.ref ea)])) rfl rfl (hb hby d21_4) _ ?_
  rw [len_of S102 Nn102]
  show SS p e below T101 m 5 #[vR a1] [(.int 0)] _
  exact retI X101 hx Bd.returns (hb hby d21_5) hr
 ·show Q_rmNsz Z a1 ea kE h0 n0 _ T101.heap _
  rw [e101]
  exact ⟨rfl, N0, rfl⟩
theorem d47_0 : DK cD35 0 (.aload_n 0) 1 := by decide +kernel
theorem d47_1 : DK cD35 1 (.getfield 9) 3 := by decide +kernel
theorem d47_4 : DK cD35 4 (.arraylength) 1 := by decide +kernel
theorem d47_5 : DK cD35 5 (.istore_n 2) 1 := by decide +kernel
theorem d47_6 : DK cD35 6 (.iload_n 2) 1 := by decide +kernel
theorem d47_7 : DK cD35 7 (.ifCond .gt 13) 3 := by decide +kernel
theorem d47_10 : DK cD35 10 (.aload_n 0) 1 := by decide +kernel
theorem d47_11 : DK cD35 11 (.getfield 9) 3 := by decide +kernel
theorem d47_14 : DK cD35 14 (.getstatic 39) 3 := by decide +kernel
theorem d47_17 : DK cD35 17 (.if_acmp .eq 28) 3 := by decide +kernel
theorem d47_45 : DK cD35 45 (.aload_n 0) 1 := by decide +kernel
theorem d47_46 : DK cD35 46 (.bipush 10) 2 := by decide +kernel
theorem d47_48 : DK cD35 48 (.iload_n 1) 1 := by decide +kernel
theorem d47_49 : DK cD35 49 (.invokestatic 79) 3 := by decide +kernel
theorem d47_52 : DK cD35 52 (.anewarray 7) 3 := by decide +kernel
theorem d47_55 : DK cD35 55 (.dup_x1) 1 := by decide +kernel
theorem d47_56 : DK cD35 56 (.putfield 9) 3 := by decide +kernel
theorem d47_59 : DK cD35 59 (.areturn) 1 := by decide +kernel
theorem ef_rmGr1 (m : MethodId) (y0 : Addr) : entryFrame m #[(.ref y0), (.int 1)] 4 = (mkF m 0 #[vR y0, vI 1, .unset, .unset] []) := by first | (simp [entryFrame, mkF, argsToLocals, Value.category]; done) | rfl
def Q_rmGr1 (Z : State) (a1 : Addr) (dd : Addr) (kD : ClassId) (h0 : Heap) (n0 : Nat) (v : Option Value) (h : Heap) (L : List Loc) : Prop := ∃ (d : Addr) (kd : ClassId), v = some (.ref d) ∧ Fr n0 L ∧ Keep h0 h [a1] ∧ h0.size ≤ d ∧ Exa Z h a1 "java/util/ArrayList" ∧ Fld Z h a1 "java/util/ArrayList" "elementData" "[Ljava/lang/Object;" (.ref d) ∧ Fld Z h a1 "java/util/ArrayList" "size" "I" (.int 0) ∧ Fld Z h a1 "java/util/AbstractList" "modCount" "I" (.int 1) ∧ Exa Z h d "[Ljava/lang/Object;" ∧ Arv Z h d kd (.object "java/lang/Object") (10 : Int32) [.null, .null, .null, .null, .null, .null, .null, .null, .null, .null] .null ∧ Ovr Z kd "java/lang/Object"
theorem rmGr1 (l : Launch) (Z : State) (a0 : Array Value) (hw : HW a0 Z) (ws : List Jvm.Cond) (a1 : Addr) (dd : Addr) (kD : ClassId) (h0 : Heap) (n0 : Nat) (O0 : Old Z n0 h0) (S_DC : Sta Z Z.heap "java/util/ArrayList" "DEFAULTCAPACITY_EMPTY_ELEMENTDATA" "[Ljava/lang/Object;" (.ref dd)) (V_DC : Arv Z Z.heap dd kD (.object "java/lang/Object") (0 : Int32) [] .null) (g1 : n0 ≤ a1) (El : Exa Z h0 a1 "java/util/ArrayList") (Ld : Fld Z h0 a1 "java/util/ArrayList" "elementData" "[Ljava/lang/Object;" (.ref dd)) (Ln : Fld Z h0 a1 "java/util/ArrayList" "size" "I" (.int 0)) (Lm : Fld Z h0 a1 "java/util/AbstractList" "modCount" "I" (.int 1)) :
  MF l mN37 jdk_38_method_6_code 4 (some (.array (.object "java/lang/Object"))) ws (Rm 1 1 10 30) Z #[(.ref a1), (.int 1)] h0 (Q_rmGr1 Z a1 dd kD h0 n0) := by
 refine MetFree.of_bodySF (plainFor_of_name pn_12) hisR ?_
 intro p e s m args below meth c s₁ Bd hml0 hP hK
 obtain ⟨rfl, hZ, hh⟩ := hP
 have hx := Bd.exec
 have hby := Bd.bytes
 have hml : c.maxLocals = 4 := hml0
 have hown : s.vm.findClass "java/util/ArrayList" = some m.cls := findClass_of_methodNamed Bd.named
 have X0 : Stand p l e (Rm 1 1 10 30) s m #[(.ref a1), (.int 1)] below meth c s₁ [] 0 0 := Stand.of_body Bd
 have e0 : s₁.heap = h0 := by rw [← hh, Bd.state]; rfl
 have N0 := Fr.nil n0
 have hn0 : n0 ≤ h0.size := O0.1 ▸ O0.2.1
 have pre0 : ∀ t, SS p e below s₁ m 0 #[vR a1, vI 1, .unset, .unset] [] t → SE p e below s₁ m #[(.ref a1), (.int 1)] 4 t := fun t k => castTop (ef_rmGr1 m a1) k
 have lt_a1 : @LT.lt Nat _ a1 h0.size := El.lt
 have V_dc := V_DC.ext O0.2
 have lt_dd : @LT.lt Nat _ dd n0 := by rw [← O0.1]; exact V_DC.lt
 obtain ⟨T101, X101, e101, st101⟩ := getF X0 hx hZ hown (host := "") (Or.inl (tw hw 76 rfl)) Via.refl e0 Ld (g := (mkF m 1 #[vR a1, vI 1, .unset, .unset] [(.ref a1)])) rfl rfl (hb hby d47_1)
 obtain ⟨cl102, Ar102, q102, S102, Nn102, H102, G102⟩ := id V_dc
 obtain ⟨T103, X103, e103, st103⟩ := getF X101 hx hZ hown (host := "") (Or.inl (tw hw 76 rfl)) Via.refl e101 Ld (g := (mkF m 11 #[vR a1, vI 1, vI 0, .unset] [(.ref a1)])) rfl rfl (hb hby d47_11)
 obtain ⟨T104, X104, e104, st104⟩ := getS2 X103 hx hZ hown (host := "") (Or.inl (tw hw 75 rfl)) Via.refl e103 (Sta.ext O0.2 S_DC) (g := (mkF m 14 #[vR a1, vI 1, vI 0, .unset] [(.ref dd)])) rfl (hb hby d47_14)
 obtain ⟨_, _, ⟨T105, L105, k105, n105⟩, -, X105, ⟨Lc105, hQ105, l105, y105, z105⟩, st105⟩ := Jvm.LawKit.callS X104 hx (y := mN2) hown (mvT hZ (tw hw 278 rfl)) (mvT hZ (tw hw 279 rfl)) (mvT hZ (tw hw 250 rfl)) (mvT hZ (tw hw 280 rfl)) (by decide) (backOf (W := 1) (rmMmax l Z a0 hw [] (10 : Int32) (1 : Int32)  h0 n0 O0 ) hZ (tw hw 280 rfl) (tw hw 250 rfl) (by decide) (by decide)) (g := (mkF m 49 #[vR a1, vI 1, vI 0, .unset] [(.int 1), (.int 10), (.ref a1)])) rfl (by rw [hml]; rfl) (argsL := [(.int 10), (.int 1)]) (rest := [(.ref a1)]) (lenOf pd_29 rfl) rfl (wL _) (hb hby d47_49) (fun _ _ => ⟨rfl, e104, (by decide : 0 + 0 ≤ _), (by decide : 0 + 0 ≤ _)⟩)
 dsimp only [Pt.U, Pt.locs, Pt.cells, Pt.slots] at X105 l105 y105 z105 st105 hQ105
 rw [l105] at X105
 subst y105 z105
 obtain ⟨rfl, N105q, H105⟩ := hQ105
 have N105 := Fr.app N0 N105q
 have hr106 : (jmax (10 : Int32) (1 : Int32)) = (10 : Int32) := by decide
 obtain ⟨T107, h107, k107, X107, e107, E107, A107, Ex107, O107, st107⟩ := newRE X105 hx hZ hown (tw hw 281 rfl) (tw hw 282 rfl) H105 (g := (mkF m 52 #[vR a1, vI 1, vI 0, .unset] [(.int 10), (.ref a1)])) rfl (hb hby d47_52) rfl (by decide) (cap := 10) (by decide) (by decide) (by decide) (by decide) (ad := "[Ljava/lang/Object;") (by decide)
 obtain ⟨b107, g107⟩ : ∃ z, z = h0.size := ⟨_, rfl⟩
 rw [← g107] at A107 Ex107 st107
 have V107 : Arv Z h107 b107 k107 (.object "java/lang/Object") (10 : Int32) [.null, .null, .null, .null, .null, .null, .null, .null, .null, .null] .null := (Arv.new A107 (by decide)).pad (pad_rep [] .null 10)
 have lt107 : @LT.lt Nat _ b107 h107.size := V107.lt
 have K107 : Keep h0 h107 [] := (Keep.refl _ _).ext E107
 have sz1_K107 := K107.1
 have C108 := El.keep K107
 have C109 := Ld.keep K107 nin0
 obtain ⟨T110, h110, X110, e110, W110, st110⟩ := putF X107 hx hZ hown (host := "") (Or.inl (tw hw 76 rfl)) Via.refl e107 C109 C108 (Or.inl (tw hw 77 rfl)) (tw hw 55 rfl) (ty := (.array (.object "java/lang/Object"))) (by decide) rfl rfl (g := (mkF m 56 #[vR a1, vI 1, vI 0, .unset] [(.ref b107), (.ref a1), (.ref b107)])) rfl rfl (hb hby d47_56)
 have K110 := Keep.of_wr W110
 have Fw110 := Fld.same W110 C109
 have N110 := Fr.snoc X110 N105 (by omega : @LE.le Nat _ n0 a1)
 have sz2_K110 := K110.1
 have KC111 : Keep h0 h107 [a1] := (Keep.refl h0 [a1]).trans K107 (all0)
 have KC112 : Keep h0 h110 [a1] := KC111.trans K110 (allS (Or.inl (List.mem_of_getElem? (i := 0) rfl)) (all0))
 have C113 := C108.keep K110
 have C114 := Ln.keep K107 nin0
 have C115 := Fld.other W110 C114 (Or.inr (slot_ne (Or.inl (tw hw 95 rfl)) (Or.inl (tw hw 77 rfl)) (by decide) (t := .int) (t' := (.array (.object "java/lang/Object"))) (by decide) (by decide)))
 have C116 := Lm.keep K107 nin0
 have C117 := Fld.other W110 C116 (Or.inr (slot_ne (Or.inl (tw hw 74 rfl)) (Or.inl (tw hw 77 rfl)) (by decide) (t := .int) (t' := (.array (.object "java/lang/Object"))) (by decide) (by decide)))
 have C118 := Ex107.keep K110
 have C119 := V107.keep K110 (ninS (by omega : @Ne Nat b107 a1) (nin0))
 obtain ⟨fs, hr, hrun, hended, hW, hsame⟩ := X110.leave (v := some (.ref b107)) (nvr Bd.returns)
 refine ⟨_, _, pre0 _ ?_, hrun, hended, _, _, rfl, ?_, ⟨_, rfl⟩, hW, hsame.mono (by decide) (by decide)⟩
 ·skip
  show SS p e below s₁ m 0 #[vR a1, vI 1, .unset, .unset] [] _
  refine XS.aloadN X0.here hx rfl (hb hby d47_0) rfl rfl ?_
  show SS p e below s₁ m 1 #[vR a1, vI 1, .unset, .unset] [(.ref a1)] _
  refine st101 _ ?_
  show SS p e below T101 m 4 #[vR a1, vI 1, .unset, .unset] [(.ref dd)] _
  refine X101.arraylength hx (by rw [e101]; exact Ar102.1) (State.isArrayOf_alike hZ.alike Ar102.2.1) (g := (mkF m 4 #[vR a1, vI 1, .unset, .unset] [(.ref dd)])) rfl rfl (hb hby d47_4) _ ?_
  rw [len_of S102 Nn102]
  refine XS.istoreN X101.here hx rfl (hb hby d47_5) rfl (l' := #[vR a1, vI 1, vI 0, .unset]) rfl ?_
  refine XS.iloadN X101.here hx rfl (hb hby d47_6) rfl ?_
  refine XS.ifNo X101.here hx rfl (hb hby d47_7) rfl ((if0 _ _).trans (flt (by decide : ¬ ((0 : Int32) < (0 : Int32)))).2.2.1) ?_
  refine XS.aloadN X101.here hx rfl (hb hby d47_10) rfl rfl ?_
  show SS p e below T101 m 11 #[vR a1, vI 1, vI 0, .unset] [(.ref a1)] _
  refine st103 _ ?_
  show SS p e below T103 m 14 #[vR a1, vI 1, vI 0, .unset] [(.ref dd)] _
  refine st104 _ ?_
  show SS p e below T104 m 17 #[vR a1, vI 1, vI 0, .unset] [(.ref dd), (.ref dd)] _
  refine Jvm.RoadKit.acmp (g := (mkF m 17 #[vR a1, vI 1, vI 0, .unset] [(.ref dd), (.ref dd)])) X104 hx rfl rfl rfl (pc0 := 17) (pc' := 45) (same := true) rfl (hb hby d47_17) rfl (decide_eq_true rfl) (by decide) (by decide) ?_
  refine XS.aloadN X104.here hx rfl (hb hby d47_45) rfl rfl ?_
  refine XS.bipush X104.here hx rfl (hb hby d47_46) ?_
  refine XS.iloadN X104.here hx rfl (hb hby d47_48) rfl ?_
  show SS p e below T104 m 49 #[vR a1, vI 1, vI 0, .unset] [(.int 1), (.int 10), (.ref a1)] _
  refine st105 _ ?_
  show SS p e below T105 m 52 #[vR a1, vI 1, vI 0, .unset] [(.int (jmax (10 : Int32) (1 : Int32))), (.ref a1)] _
  rw [hr106]
  show SS p e below T105 m 52 #[vR a1, vI 1, vI 0, .unset] [(.int 10), (.ref a1)] _
  refine st107 _ ?_
  refine XS.dupX1 X107.here hx rfl (hb hby d47_55) rfl rfl rfl ?_
  show SS p e below T107 m 56 #[vR a1, vI 1, vI 0, .unset] [(.ref b107), (.ref a1), (.ref b107)] _
  refine st110 _ ?_
  show SS p e below T110 m 59 #[vR a1, vI 1, vI 0, .unset] [(.ref b107)] _
  exact X110.areturnOut hx rfl Bd.returns rfl (hb hby d47_59) hr
 ·show Q_rmGr1 Z a1 dd kD h0 n0 _ T110.heap _
  rw [e110]
  exact ⟨_, _, rfl, N110, KC112, (by omega), C113, Fw110, C115, C117, C118, C119, O107⟩
theorem d46_0 : DK cD36 0 (.aload_n 0) 1 := by decide +kernel
theorem d46_1 : DK cD36 1 (.aload_n 0) 1 := by decide +kernel
theorem d46_2 : DK cD36 2 (.getfield 48) 3 := by decide +kernel
theorem d46_5 : DK cD36 5 (.iconst 1) 1 := by decide +kernel
theorem d46_6 : DK cD36 6 (.iadd) 1 := by decide +kernel
theorem d46_7 : DK cD36 7 (.invokevirtual 69) 3 := by decide +kernel
theorem d46_10 : DK cD36 10 (.areturn) 1 := by decide +kernel
theorem pd_33 : parseMethodDescriptor "(I)[Ljava/lang/Object;" = some ⟨[.int], some (.array (.object "java/lang/Object"))⟩ := by decide +kernel
theorem ef_rmGr0 (m : MethodId) (y0 : Addr) : entryFrame m #[(.ref y0)] 1 = (mkF m 0 #[vR y0] []) := by first | (simp [entryFrame, mkF, argsToLocals, Value.category]; done) | rfl
def Q_rmGr0 (Z : State) (a1 : Addr) (dd : Addr) (kD : ClassId) (h0 : Heap) (n0 : Nat) (v : Option Value) (h : Heap) (L : List Loc) : Prop := ∃ (d : Addr) (kd : ClassId), v = some (.ref d) ∧ Fr n0 L ∧ Keep h0 h [a1] ∧ h0.size ≤ d ∧ Exa Z h a1 "java/util/ArrayList" ∧ Fld Z h a1 "java/util/ArrayList" "elementData" "[Ljava/lang/Object;" (.ref d) ∧ Fld Z h a1 "java/util/ArrayList" "size" "I" (.int 0) ∧ Fld Z h a1 "java/util/AbstractList" "modCount" "I" (.int 1) ∧ Exa Z h d "[Ljava/lang/Object;" ∧ Arv Z h d kd (.object "java/lang/Object") (10 : Int32) [.null, .null, .null, .null, .null, .null, .null, .null, .null, .null] .null ∧ Ovr Z kd "java/lang/Object"
theorem rmGr0 (l : Launch) (Z : State) (a0 : Array Value) (hw : HW a0 Z) (ws : List Jvm.Cond) (a1 : Addr) (dd : Addr) (kD : ClassId) (h0 : Heap) (n0 : Nat) (O0 : Old Z n0 h0) (S_DC : Sta Z Z.heap "java/util/ArrayList" "DEFAULTCAPACITY_EMPTY_ELEMENTDATA" "[Ljava/lang/Object;" (.ref dd)) (V_DC : Arv Z Z.heap dd kD (.object "java/lang/Object") (0 : Int32) [] .null) (g1 : n0 ≤ a1) (El : Exa Z h0 a1 "java/util/ArrayList") (Ld : Fld Z h0 a1 "java/util/ArrayList" "elementData" "[Ljava/lang/Object;" (.ref dd)) (Ln : Fld Z h0 a1 "java/util/ArrayList" "size" "I" (.int 0)) (Lm : Fld Z h0 a1 "java/util/AbstractList" "modCount" "I" (.int 1)) :
  MF l mN38 jdk_38_method_7_code 1 (some (.array (.object "java/lang/Object"))) ws (Rm 2 1 10 50) Z #[(.ref a1)] h0 (Q_rmGr0 Z a1 dd kD h0 n0) := by
 refine MetFree.of_bodySF (plainFor_of_name pn_12) hisR ?_
 intro p e s m args below meth c s₁ Bd hml0 hP hK
 obtain ⟨rfl, hZ, hh⟩ := hP
 have hx := Bd.exec
 have hby := Bd.bytes
 have hml : c.maxLocals = 1 := hml0
 have hown : s.vm.findClass "java/util/ArrayList" = some m.cls := findClass_of_methodNamed Bd.named
 have X0 : Stand p l e (Rm 2 1 10 50) s m #[(.ref a1)] below meth c s₁ [] 0 0 := Stand.of_body Bd
 have e0 : s₁.heap = h0 := by rw [← hh, Bd.state]; rfl
 have N0 := Fr.nil n0
 have hn0 : n0 ≤ h0.size := O0.1 ▸ O0.2.1
 have pre0 : ∀ t, SS p e below s₁ m 0 #[vR a1] [] t → SE p e below s₁ m #[(.ref a1)] 1 t := fun t k => castTop (ef_rmGr0 m a1) k
 have lt_a1 : @LT.lt Nat _ a1 h0.size := El.lt
 have V_dc := V_DC.ext O0.2
 have lt_dd : @LT.lt Nat _ dd n0 := by rw [← O0.1]; exact V_DC.lt
 obtain ⟨T101, X101, e101, st101⟩ := getF X0 hx hZ hown (host := "") (Or.inl (tw hw 94 rfl)) Via.refl e0 Ln (g := (mkF m 2 #[vR a1] [(.ref a1), (.ref a1)])) rfl rfl (hb hby d46_2)
 have hr102 : ((0 : Int32) + (1 : Int32)) = (1 : Int32) := by decide
 obtain ⟨cq103, q103, q103'⟩ := (Ins.self El).cell
 obtain ⟨_, _, ⟨T103, L103, k103, n103⟩, -, X103, ⟨Lc103, hQ103, l103, y103, z103⟩, st103⟩ := X101.privateBack hx (y := mN37) hown (mvT hZ (tw hw 273 rfl)) (mvT hZ (tw hw 274 rfl)) (mvT hZ (tw hw 276 rfl)) (Cond.privateMethod_at (mvP hZ (tw hw 275 rfl) (args := #[]))) (mvT hZ (tw hw 277 rfl)) (by decide) (backOf (W := 0) (rmGr1 l Z a0 hw [] a1 dd kD h0 n0 O0 S_DC V_DC (by omega : @LE.le Nat _ n0 a1) El Ld Ln Lm) hZ (tw hw 277 rfl) (tw hw 56 rfl) (by decide) (by decide)) (g := (mkF m 7 #[vR a1] [(.int 1), (.ref a1)])) rfl (by rw [hml]; rfl) (Steps.refl _) (a := a1) (by rw [e101]; exact q103) q103' (argsL := [(.int 1)]) (rest := []) (lenOf pd_33 rfl) rfl (wL _) (hb hby d46_7) (fun _ _ => ⟨rfl, e101, (by decide : 0 + 1 ≤ _), (by decide : 0 + 10 ≤ _)⟩)
 dsimp only [Pt.U, Pt.locs, Pt.cells, Pt.slots] at X103 l103 y103 z103 st103 hQ103
 rw [l103] at X103
 subst y103 z103
 obtain ⟨d103, kd103, rfl, N103q, K103, gd103, El103, Ld103, Ln103, Lm103, Ea103, Va103, Oa103⟩ := hQ103
 have ltd103 : @LT.lt Nat _ d103 T103.heap.size := Va103.lt
 have sz1_K103 := K103.1
 have N103 := Fr.app N0 N103q
 have KC104 : Keep h0 T103.heap [a1] := (Keep.refl h0 [a1]).trans K103 (allS (Or.inl (List.mem_of_getElem? (i := 0) rfl)) (all0))
 obtain ⟨fs, hr, hrun, hended, hW, hsame⟩ := X103.leave (v := some (.ref d103)) (nvr Bd.returns)
 refine ⟨_, _, pre0 _ ?_, hrun, hended, _, _, rfl, ?_, ⟨_, rfl⟩, hW, hsame.mono (by decide) (by decide)⟩
 ·skip
  show SS p e below s₁ m 0 #[vR a1] [] _
  refine XS.aloadN X0.here hx rfl (hb hby d46_0) rfl rfl ?_
  refine XS.aloadN X0.here hx rfl (hb hby d46_1) rfl rfl ?_
  show SS p e below s₁ m 2 #[vR a1] [(.ref a1), (.ref a1)] _
  refine st101 _ ?_
  refine XS.iconst X101.here hx rfl (hb hby d46_5) ?_
  refine XS.iadd X101.here hx rfl (hb hby d46_6) rfl ?_
  show SS p e below T101 m 7 #[vR a1] [(.int ((0 : Int32) + (1 : Int32))), (.ref a1)] _
  rw [hr102]
  show SS p e below T101 m 7 #[vR a1] [(.int 1), (.ref a1)] _
  refine st103.trans ?_
  show SS p e below T103 m 10 #[vR a1] [(.ref d103)] _
  exact X103.areturnOut hx rfl Bd.returns rfl (hb hby d46_10) hr
 ·show Q_rmGr0 Z a1 dd kD h0 n0 _ T103.heap _
  exact ⟨_, _, rfl, N103, KC104, (by omega), El103, Ld103, Ln103, Lm103, Ea103, Va103, Oa103⟩
theorem d45_0 : DK cD37 0 (.iload_n 3) 1 := by decide +kernel
theorem d45_1 : DK cD37 1 (.aload_n 2) 1 := by decide +kernel
theorem d45_2 : DK cD37 2 (.arraylength) 1 := by decide +kernel
theorem d45_3 : DK cD37 3 (.if_icmp .ne 8) 3 := by decide +kernel
theorem d45_6 : DK cD37 6 (.aload_n 0) 1 := by decide +kernel
theorem d45_7 : DK cD37 7 (.invokevirtual 129) 3 := by decide +kernel
theorem d45_10 : DK cD37 10 (.astore_n 2) 1 := by decide +kernel
theorem d45_11 : DK cD37 11 (.aload_n 2) 1 := by decide +kernel
theorem d45_12 : DK cD37 12 (.iload_n 3) 1 := by decide +kernel
theorem d45_13 : DK cD37 13 (.aload_n 1) 1 := by decide +kernel
theorem d45_14 : DK cD37 14 (.aastore) 1 := by decide +kernel
theorem d45_15 : DK cD37 15 (.aload_n 0) 1 := by decide +kernel
theorem d45_16 : DK cD37 16 (.iload_n 3) 1 := by decide +kernel
theorem d45_17 : DK cD37 17 (.iconst 1) 1 := by decide +kernel
theorem d45_18 : DK cD37 18 (.iadd) 1 := by decide +kernel
theorem d45_19 : DK cD37 19 (.putfield 48) 3 := by decide +kernel
theorem d45_22 : DK cD37 22 (.return_) 1 := by decide +kernel
theorem pd_32 : parseMethodDescriptor "()[Ljava/lang/Object;" = some ⟨[], some (.array (.object "java/lang/Object"))⟩ := by decide +kernel
theorem ef_rmAd30 (m : MethodId) (y0 : Addr) (y1 : Addr) (y2 : Addr) : entryFrame m #[(.ref y0), (.ref y1), (.ref y2), (.int 0)] 4 = (mkF m 0 #[vR y0, vR y1, vR y2, vI 0] []) := by first | (simp [entryFrame, mkF, argsToLocals, Value.category]; done) | rfl
def Q_rmAd30 (Z : State) (a1 : Addr) (a2 : Addr) (dd : Addr) (kD : ClassId) (h0 : Heap) (n0 : Nat) (v : Option Value) (h : Heap) (L : List Loc) : Prop := ∃ (d : Addr) (kd : ClassId), v = none ∧ Fr n0 L ∧ Keep h0 h [a1] ∧ h0.size ≤ d ∧ Exa Z h a1 "java/util/ArrayList" ∧ Fld Z h a1 "java/util/ArrayList" "elementData" "[Ljava/lang/Object;" (.ref d) ∧ Fld Z h a1 "java/util/ArrayList" "size" "I" (.int 1) ∧ Fld Z h a1 "java/util/AbstractList" "modCount" "I" (.int 1) ∧ Exa Z h d "[Ljava/lang/Object;" ∧ Arv Z h d kd (.object "java/lang/Object") (10 : Int32) [(.ref a2), .null, .null, .null, .null, .null, .null, .null, .null, .null] .null ∧ Ovr Z kd "java/lang/Object"
theorem rmAd30 (l : Launch) (Z : State) (a0 : Array Value) (hw : HW a0 Z) (ws : List Jvm.Cond) (a1 : Addr) (a2 : Addr) (dd : Addr) (kD : ClassId) (h0 : Heap) (n0 : Nat) (O0 : Old Z n0 h0) (S_DC : Sta Z Z.heap "java/util/ArrayList" "DEFAULTCAPACITY_EMPTY_ELEMENTDATA" "[Ljava/lang/Object;" (.ref dd)) (V_DC : Arv Z Z.heap dd kD (.object "java/lang/Object") (0 : Int32) [] .null) (g1 : n0 ≤ a1) (El : Exa Z h0 a1 "java/util/ArrayList") (Ld : Fld Z h0 a1 "java/util/ArrayList" "elementData" "[Ljava/lang/Object;" (.ref dd)) (Ln : Fld Z h0 a1 "java/util/ArrayList" "size" "I" (.int 0)) (Lm : Fld Z h0 a1 "java/util/AbstractList" "modCount" "I" (.int 1)) (Eo : Exa Z h0 a2 "java/lang/String") :
  MF l mN39 jdk_38_method_24_code 4 none ws (Rm 3 1 10 70) Z #[(.ref a1), (.ref a2), (.ref dd), (.int 0)] h0 (Q_rmAd30 Z a1 a2 dd kD h0 n0) := by
 refine MetFree.of_bodySF (plainFor_of_name pn_12) hisR ?_
 intro p e s m args below meth c s₁ Bd hml0 hP hK
 obtain ⟨rfl, hZ, hh⟩ := hP
 have hx := Bd.exec
 have hby := Bd.bytes
 have hml : c.maxLocals = 4 := hml0
 have hown : s.vm.findClass "java/util/ArrayList" = some m.cls := findClass_of_methodNamed Bd.named
 have X0 : Stand p l e (Rm 3 1 10 70) s m #[(.ref a1), (.ref a2), (.ref dd), (.int 0)] below meth c s₁ [] 0 0 := Stand.of_body Bd
 have e0 : s₁.heap = h0 := by rw [← hh, Bd.state]; rfl
 have N0 := Fr.nil n0
 have hn0 : n0 ≤ h0.size := O0.1 ▸ O0.2.1
 have pre0 : ∀ t, SS p e below s₁ m 0 #[vR a1, vR a2, vR dd, vI 0] [] t → SE p e below s₁ m #[(.ref a1), (.ref a2), (.ref dd), (.int 0)] 4 t := fun t k => castTop (ef_rmAd30 m a1 a2 dd) k
 have lt_a1 : @LT.lt Nat _ a1 h0.size := El.lt
 have lt_a2 : @LT.lt Nat _ a2 h0.size := Eo.lt
 have V_dc := V_DC.ext O0.2
 have lt_dd : @LT.lt Nat _ dd n0 := by rw [← O0.1]; exact V_DC.lt
 obtain ⟨cl101, Ar101, q101, S101, Nn101, H101, G101⟩ := id V_dc
 obtain ⟨cq102, q102, q102'⟩ := (Ins.self El).cell
 obtain ⟨_, _, ⟨T102, L102, k102, n102⟩, -, X102, ⟨Lc102, hQ102, l102, y102, z102⟩, st102⟩ := X0.privateBack hx (y := mN38) hown (mvT hZ (tw hw 268 rfl)) (mvT hZ (tw hw 269 rfl)) (mvT hZ (tw hw 271 rfl)) (Cond.privateMethod_at (mvP hZ (tw hw 270 rfl) (args := #[]))) (mvT hZ (tw hw 272 rfl)) (by decide) (backOf (W := 0) (rmGr0 l Z a0 hw [] a1 dd kD h0 n0 O0 S_DC V_DC (by omega : @LE.le Nat _ n0 a1) El Ld Ln Lm) hZ (tw hw 272 rfl) (tw hw 56 rfl) (by decide) (by decide)) (g := (mkF m 7 #[vR a1, vR a2, vR dd, vI 0] [(.ref a1)])) rfl (by rw [hml]; rfl) (Steps.refl _) (a := a1) (by rw [e0]; exact q102) q102' (argsL := []) (rest := []) (lenOf pd_32 rfl) rfl (wL _) (hb hby d45_7) (fun _ _ => ⟨rfl, e0, (by decide : 0 + 1 ≤ _), (by decide : 0 + 10 ≤ _)⟩)
 dsimp only [Pt.U, Pt.locs, Pt.cells, Pt.slots] at X102 l102 y102 z102 st102 hQ102
 rw [l102] at X102
 subst y102 z102
 obtain ⟨d102, kd102, rfl, N102q, K102, gd102, El102, Ld102, Ln102, Lm102, Ea102, Va102, Oa102⟩ := hQ102
 have ltd102 : @LT.lt Nat _ d102 T102.heap.size := Va102.lt
 have sz1_K102 := K102.1
 have N102 := Fr.app N0 N102q
 obtain ⟨cl103, Ar103, q103, S103, Nn103, H103, G103⟩ := id Va102
 have C104 := Eo.keep K102
 obtain ⟨T105, h105, X105, e105, W105, st105⟩ := stR X102 hx hZ rfl Ar103 (j := (0 : Int32)) (inb_of S103 ⟨by decide, by decide⟩) rfl (Sto.ofV Ar103 q103 Oa102 (Ins.of_exa C104 (tw hw 283 rfl))) (g := (mkF m 14 #[vR a1, vR a2, vR d102, vI 0] [(.ref a2), (.int 0), (.ref d102)])) rfl rfl (hb hby d45_14)
 have V105 : Arv Z h105 d102 kd102 (.object "java/lang/Object") (10 : Int32) [(.ref a2), .null, .null, .null, .null, .null, .null, .null, .null, .null] .null := Arv.set Ar103 q103 S103 Nn103 H103 G103 rfl W105 0 rfl (Nat.le_of_ble_eq_true rfl)
 have K105 := Keep.of_wr W105
 have N105 := Fr.snoc X105 N102 (by omega : @LE.le Nat _ n0 d102)
 have sz2_K105 := K105.1
 have hr106 : ((0 : Int32) + (1 : Int32)) = (1 : Int32) := by decide
 have C107 := El102.keep K105
 have C108 := Ln102.keep K105 (ninS (by omega : @Ne Nat a1 d102) (nin0))
 obtain ⟨T109, h109, X109, e109, W109, st109⟩ := putF X105 hx hZ hown (host := "") (Or.inl (tw hw 94 rfl)) Via.refl e105 C108 C107 (Or.inl (tw hw 95 rfl)) (tw hw 55 rfl) (ty := .int) (by decide) rfl rfl (g := (mkF m 19 #[vR a1, vR a2, vR d102, vI 0] [(.int 1), (.ref a1)])) rfl rfl (hb hby d45_19)
 have K109 := Keep.of_wr W109
 have Fw109 := Fld.same W109 C108
 have N109 := Fr.snoc X109 N105 (by omega : @LE.le Nat _ n0 a1)
 have sz3_K109 := K109.1
 have KC110 : Keep h0 T102.heap [a1] := (Keep.refl h0 [a1]).trans K102 (allS (Or.inl (List.mem_of_getElem? (i := 0) rfl)) (all0))
 have KC111 : Keep h0 h105 [a1] := KC110.trans K105 (allS (Or.inr (by omega)) (all0))
 have KC112 : Keep h0 h109 [a1] := KC111.trans K109 (allS (Or.inl (List.mem_of_getElem? (i := 0) rfl)) (all0))
 have C113 := C107.keep K109
 have C114 := Ld102.keep K105 (ninS (by omega : @Ne Nat a1 d102) (nin0))
 have C115 := Fld.other W109 C114 (Or.inr (slot_ne (Or.inl (tw hw 77 rfl)) (Or.inl (tw hw 95 rfl)) (by decide) (t := (.array (.object "java/lang/Object"))) (t' := .int) (by decide) (by decide)))
 have C116 := Lm102.keep K105 (ninS (by omega : @Ne Nat a1 d102) (nin0))
 have C117 := Fld.other W109 C116 (Or.inr (slot_ne (Or.inl (tw hw 74 rfl)) (Or.inl (tw hw 95 rfl)) (by decide) (t := .int) (t' := .int) (by decide) (by decide)))
 have KD118 : Keep T102.heap h109 [d102, a1] := ((Keep.refl _ _).trans K105 (allS (Or.inl (List.mem_of_getElem? (i := 0) rfl)) (all0))).trans K109 (allS (Or.inl (List.mem_of_getElem? (i := 1) rfl)) (all0))
 have C119 := Ea102.keep KD118
 have C120 := V105.keep K109 (ninS (by omega : @Ne Nat d102 a1) (nin0))
 obtain ⟨fs, hr, hrun, hended, hW, hsame⟩ := X109.leave (v := none) (fun _ => rfl)
 refine ⟨_, _, pre0 _ ?_, hrun, hended, _, _, rfl, ?_, ⟨_, rfl⟩, hW, hsame.mono (by decide) (by decide)⟩
 ·skip
  show SS p e below s₁ m 0 #[vR a1, vR a2, vR dd, vI 0] [] _
  refine XS.iloadN X0.here hx rfl (hb hby d45_0) rfl ?_
  refine XS.aloadN X0.here hx rfl (hb hby d45_1) rfl rfl ?_
  show SS p e below s₁ m 2 #[vR a1, vR a2, vR dd, vI 0] [(.ref dd), (.int 0)] _
  refine X0.arraylength hx (by rw [e0]; exact Ar101.1) (State.isArrayOf_alike hZ.alike Ar101.2.1) (g := (mkF m 2 #[vR a1, vR a2, vR dd, vI 0] [(.ref dd), (.int 0)])) rfl rfl (hb hby d45_2) _ ?_
  rw [len_of S101 Nn101]
  refine XS.icmpNo X0.here hx rfl (hb hby d45_3) rfl (teq (by decide : (0 : Int32) = (0 : Int32))).2 ?_
  refine XS.aloadN X0.here hx rfl (hb hby d45_6) rfl rfl ?_
  show SS p e below s₁ m 7 #[vR a1, vR a2, vR dd, vI 0] [(.ref a1)] _
  refine st102.trans ?_
  refine XS.astoreN X102.here hx rfl (hb hby d45_10) rfl rfl (l' := #[vR a1, vR a2, vR d102, vI 0]) rfl ?_
  refine XS.aloadN X102.here hx rfl (hb hby d45_11) rfl rfl ?_
  refine XS.iloadN X102.here hx rfl (hb hby d45_12) rfl ?_
  refine XS.aloadN X102.here hx rfl (hb hby d45_13) rfl rfl ?_
  show SS p e below T102 m 14 #[vR a1, vR a2, vR d102, vI 0] [(.ref a2), (.int 0), (.ref d102)] _
  refine st105 _ ?_
  refine XS.aloadN X105.here hx rfl (hb hby d45_15) rfl rfl ?_
  refine XS.iloadN X105.here hx rfl (hb hby d45_16) rfl ?_
  refine XS.iconst X105.here hx rfl (hb hby d45_17) ?_
  refine XS.iadd X105.here hx rfl (hb hby d45_18) rfl ?_
  show SS p e below T105 m 19 #[vR a1, vR a2, vR d102, vI 0] [(.int ((0 : Int32) + (1 : Int32))), (.ref a1)] _
  rw [hr106]
  show SS p e below T105 m 19 #[vR a1, vR a2, vR d102, vI 0] [(.int 1), (.ref a1)] _
  refine st109 _ ?_
  show SS p e below T109 m 22 #[vR a1, vR a2, vR d102, vI 0] [] _
  exact X109.returnOut hx Bd.returns (hb hby d45_22) hr
 ·show Q_rmAd30 Z a1 a2 dd kD h0 n0 _ T109.heap _
  rw [e109]
  exact ⟨_, _, rfl, N109, KC112, (by omega), C113, C115, Fw109, C117, C119, C120, Oa102⟩
theorem d44_0 : DK cD38 0 (.aload_n 0) 1 := by decide +kernel
theorem d44_1 : DK cD38 1 (.dup) 1 := by decide +kernel
theorem d44_2 : DK cD38 2 (.getfield 63) 3 := by decide +kernel
theorem d44_5 : DK cD38 5 (.iconst 1) 1 := by decide +kernel
theorem d44_6 : DK cD38 6 (.iadd) 1 := by decide +kernel
theorem d44_7 : DK cD38 7 (.putfield 63) 3 := by decide +kernel
theorem d44_10 : DK cD38 10 (.aload_n 0) 1 := by decide +kernel
theorem d44_11 : DK cD38 11 (.aload_n 1) 1 := by decide +kernel
theorem d44_12 : DK cD38 12 (.aload_n 0) 1 := by decide +kernel
theorem d44_13 : DK cD38 13 (.getfield 9) 3 := by decide +kernel
theorem d44_16 : DK cD38 16 (.aload_n 0) 1 := by decide +kernel
theorem d44_17 : DK cD38 17 (.getfield 48) 3 := by decide +kernel
theorem d44_20 : DK cD38 20 (.invokevirtual 131) 3 := by decide +kernel
theorem d44_23 : DK cD38 23 (.iconst 1) 1 := by decide +kernel
theorem d44_24 : DK cD38 24 (.ireturn) 1 := by decide +kernel
theorem pd_31 : parseMethodDescriptor "(Ljava/lang/Object;[Ljava/lang/Object;I)V" = some ⟨[(.object "java/lang/Object"), (.array (.object "java/lang/Object")), .int], none⟩ := by decide +kernel
theorem ef_rmAd0 (m : MethodId) (y0 : Addr) (y1 : Addr) : entryFrame m #[(.ref y0), (.ref y1)] 2 = (mkF m 0 #[vR y0, vR y1] []) := by first | (simp [entryFrame, mkF, argsToLocals, Value.category]; done) | rfl
def Q_rmAd0 (Z : State) (a1 : Addr) (a2 : Addr) (dd : Addr) (kD : ClassId) (h0 : Heap) (n0 : Nat) (v : Option Value) (h : Heap) (L : List Loc) : Prop := ∃ (d : Addr) (kd : ClassId), v = some (.int 1) ∧ Fr n0 L ∧ Keep h0 h [a1] ∧ h0.size ≤ d ∧ Exa Z h a1 "java/util/ArrayList" ∧ Fld Z h a1 "java/util/ArrayList" "elementData" "[Ljava/lang/Object;" (.ref d) ∧ Fld Z h a1 "java/util/ArrayList" "size" "I" (.int 1) ∧ Fld Z h a1 "java/util/AbstractList" "modCount" "I" (.int 1) ∧ Exa Z h d "[Ljava/lang/Object;" ∧ Arv Z h d kd (.object "java/lang/Object") (10 : Int32) [(.ref a2), .null, .null, .null, .null, .null, .null, .null, .null, .null] .null ∧ Ovr Z kd "java/lang/Object"
theorem rmAd0 (l : Launch) (Z : State) (a0 : Array Value) (hw : HW a0 Z) (ws : List Jvm.Cond) (a1 : Addr) (a2 : Addr) (dd : Addr) (kD : ClassId) (h0 : Heap) (n0 : Nat) (O0 : Old Z n0 h0) (S_DC : Sta Z Z.heap "java/util/ArrayList" "DEFAULTCAPACITY_EMPTY_ELEMENTDATA" "[Ljava/lang/Object;" (.ref dd)) (V_DC : Arv Z Z.heap dd kD (.object "java/lang/Object") (0 : Int32) [] .null) (g1 : n0 ≤ a1) (El : Exa Z h0 a1 "java/util/ArrayList") (Ld : Fld Z h0 a1 "java/util/ArrayList" "elementData" "[Ljava/lang/Object;" (.ref dd)) (Ln : Fld Z h0 a1 "java/util/ArrayList" "size" "I" (.int 0)) (Lm : Fld Z h0 a1 "java/util/AbstractList" "modCount" "I" (.int 0)) (Eo : Exa Z h0 a2 "java/lang/String") :
  MF l mN40 jdk_38_method_25_code 2 (some .boolean) ws (Rm 4 1 10 90) Z #[(.ref a1), (.ref a2)] h0 (Q_rmAd0 Z a1 a2 dd kD h0 n0) := by
 refine MetFree.of_bodySF (plainFor_of_name pn_12) hisR ?_
 intro p e s m args below meth c s₁ Bd hml0 hP hK
 obtain ⟨rfl, hZ, hh⟩ := hP
 have hx := Bd.exec
 have hby := Bd.bytes
 have hml : c.maxLocals = 2 := hml0
 have hown : s.vm.findClass "java/util/ArrayList" = some m.cls := findClass_of_methodNamed Bd.named
 have X0 : Stand p l e (Rm 4 1 10 90) s m #[(.ref a1), (.ref a2)] below meth c s₁ [] 0 0 := Stand.of_body Bd
 have e0 : s₁.heap = h0 := by rw [← hh, Bd.state]; rfl
 have N0 := Fr.nil n0
 have hn0 : n0 ≤ h0.size := O0.1 ▸ O0.2.1
 have pre0 : ∀ t, SS p e below s₁ m 0 #[vR a1, vR a2] [] t → SE p e below s₁ m #[(.ref a1), (.ref a2)] 2 t := fun t k => castTop (ef_rmAd0 m a1 a2) k
 have lt_a1 : @LT.lt Nat _ a1 h0.size := El.lt
 have lt_a2 : @LT.lt Nat _ a2 h0.size := Eo.lt
 have V_dc := V_DC.ext O0.2
 have lt_dd : @LT.lt Nat _ dd n0 := by rw [← O0.1]; exact V_DC.lt
 obtain ⟨T101, X101, e101, st101⟩ := getF X0 hx hZ hown (host := "") (Or.inl (tw hw 261 rfl)) (Via.of (tw hw 262 rfl)) e0 Lm (g := (mkF m 2 #[vR a1, vR a2] [(.ref a1), (.ref a1)])) rfl rfl (hb hby d44_2)
 have hr102 : ((0 : Int32) + (1 : Int32)) = (1 : Int32) := by decide
 obtain ⟨T103, h103, X103, e103, W103, st103⟩ := putF X101 hx hZ hown (host := "") (Or.inl (tw hw 261 rfl)) (Via.of (tw hw 262 rfl)) e101 Lm El (Or.inl (tw hw 74 rfl)) (tw hw 55 rfl) (ty := .int) (by decide) rfl rfl (g := (mkF m 7 #[vR a1, vR a2] [(.int 1), (.ref a1)])) rfl rfl (hb hby d44_7)
 have K103 := Keep.of_wr W103
 have Fw103 := Fld.same W103 Lm
 have N103 := Fr.snoc X103 N0 (by omega : @LE.le Nat _ n0 a1)
 have sz1_K103 := K103.1
 have C104 := Fld.other W103 Ld (Or.inr (slot_ne (Or.inl (tw hw 77 rfl)) (Or.inl (tw hw 74 rfl)) (by decide) (t := (.array (.object "java/lang/Object"))) (t' := .int) (by decide) (by decide)))
 obtain ⟨T105, X105, e105, st105⟩ := getF X103 hx hZ hown (host := "") (Or.inl (tw hw 76 rfl)) Via.refl e103 C104 (g := (mkF m 13 #[vR a1, vR a2] [(.ref a1), (.ref a2), (.ref a1)])) rfl rfl (hb hby d44_13)
 have C106 := Fld.other W103 Ln (Or.inr (slot_ne (Or.inl (tw hw 95 rfl)) (Or.inl (tw hw 74 rfl)) (by decide) (t := .int) (t' := .int) (by decide) (by decide)))
 obtain ⟨T107, X107, e107, st107⟩ := getF X105 hx hZ hown (host := "") (Or.inl (tw hw 94 rfl)) Via.refl e105 C106 (g := (mkF m 17 #[vR a1, vR a2] [(.ref a1), (.ref dd), (.ref a2), (.ref a1)])) rfl rfl (hb hby d44_17)
 have C109 := El.keep K103
 have C110 := Eo.keep K103
 have O111 : Old Z n0 h103 := O0.keep K103 (allS (by omega) (all0))
 obtain ⟨cq108, q108, q108'⟩ := (Ins.self C109).cell
 obtain ⟨_, _, ⟨T108, L108, k108, n108⟩, -, X108, ⟨Lc108, hQ108, l108, y108, z108⟩, st108⟩ := X107.privateBack hx (y := mN39) hown (mvT hZ (tw hw 263 rfl)) (mvT hZ (tw hw 264 rfl)) (mvT hZ (tw hw 266 rfl)) (Cond.privateMethod_at (mvP hZ (tw hw 265 rfl) (args := #[]))) (mvT hZ (tw hw 267 rfl)) (by decide) (backOf (W := 0) (rmAd30 l Z a0 hw [] a1 a2 dd kD h103 n0 O111 S_DC V_DC (by omega : @LE.le Nat _ n0 a1) C109 C104 C106 Fw103 C110) hZ (tw hw 267 rfl) (tw hw 56 rfl) (by decide) (by decide)) (g := (mkF m 20 #[vR a1, vR a2] [(.int 0), (.ref dd), (.ref a2), (.ref a1)])) rfl (by rw [hml]; rfl) (Steps.refl _) (a := a1) (by rw [e107]; exact q108) q108' (argsL := [(.ref a2), (.ref dd), (.int 0)]) (rest := []) (lenOf pd_31 rfl) rfl (wL _) (hb hby d44_20) (fun _ _ => ⟨rfl, e107, (by decide : 0 + 1 ≤ _), (by decide : 0 + 10 ≤ _)⟩)
 dsimp only [Pt.U, Pt.locs, Pt.cells, Pt.slots] at X108 l108 y108 z108 st108 hQ108
 rw [l108] at X108
 subst y108 z108
 obtain ⟨d108, kd108, rfl, N108q, K108, gd108, El108, Ld108, Ln108, Lm108, Ea108, Va108, Oa108⟩ := hQ108
 have ltd108 : @LT.lt Nat _ d108 T108.heap.size := Va108.lt
 have sz2_K108 := K108.1
 have N108 := Fr.app N103 N108q
 have KC112 : Keep h0 h103 [a1] := (Keep.refl h0 [a1]).trans K103 (allS (Or.inl (List.mem_of_getElem? (i := 0) rfl)) (all0))
 have KC113 : Keep h0 T108.heap [a1] := KC112.trans K108 (allS (Or.inl (List.mem_of_getElem? (i := 0) rfl)) (all0))
 obtain ⟨fs, hr, hrun, hended, hW, hsame⟩ := X108.leave (v := some (.int 1)) (nvr Bd.returns)
 refine ⟨_, _, pre0 _ ?_, hrun, hended, _, _, rfl, ?_, ⟨_, rfl⟩, hW, hsame.mono (by decide) (by decide)⟩
 ·skip
  show SS p e below s₁ m 0 #[vR a1, vR a2] [] _
  refine XS.aloadN X0.here hx rfl (hb hby d44_0) rfl rfl ?_
  refine XS.dup X0.here hx rfl (hb hby d44_1) rfl rfl ?_
  show SS p e below s₁ m 2 #[vR a1, vR a2] [(.ref a1), (.ref a1)] _
  refine st101 _ ?_
  refine XS.iconst X101.here hx rfl (hb hby d44_5) ?_
  refine XS.iadd X101.here hx rfl (hb hby d44_6) rfl ?_
  show SS p e below T101 m 7 #[vR a1, vR a2] [(.int ((0 : Int32) + (1 : Int32))), (.ref a1)] _
  rw [hr102]
  show SS p e below T101 m 7 #[vR a1, vR a2] [(.int 1), (.ref a1)] _
  refine st103 _ ?_
  refine XS.aloadN X103.here hx rfl (hb hby d44_10) rfl rfl ?_
  refine XS.aloadN X103.here hx rfl (hb hby d44_11) rfl rfl ?_
  refine XS.aloadN X103.here hx rfl (hb hby d44_12) rfl rfl ?_
  show SS p e below T103 m 13 #[vR a1, vR a2] [(.ref a1), (.ref a2), (.ref a1)] _
  refine st105 _ ?_
  refine XS.aloadN X105.here hx rfl (hb hby d44_16) rfl rfl ?_
  show SS p e below T105 m 17 #[vR a1, vR a2] [(.ref a1), (.ref dd), (.ref a2), (.ref a1)] _
  refine st107 _ ?_
  show SS p e below T107 m 20 #[vR a1, vR a2] [(.int 0), (.ref dd), (.ref a2), (.ref a1)] _
  refine st108.trans ?_
  refine XS.iconst X108.here hx rfl (hb hby d44_23) ?_
  show SS p e below T108 m 24 #[vR a1, vR a2] [(.int 1)] _
  exact retN X108 hx (t := .boolean) Bd.returns (by simp) (hb hby d44_24) hr
 ·show Q_rmAd0 Z a1 a2 dd kD h0 n0 _ T108.heap _
  exact ⟨_, _, rfl, N108, KC113, (by omega), El108, Ld108, Ln108, Lm108, Ea108, Va108, Oa108⟩
theorem ef_rmAd31 (m : MethodId) (y0 : Addr) (y1 : Addr) (y2 : Addr) : entryFrame m #[(.ref y0), (.ref y1), (.ref y2), (.int 1)] 4 = (mkF m 0 #[vR y0, vR y1, vR y2, vI 1] []) := by first | (simp [entryFrame, mkF, argsToLocals, Value.category]; done) | rfl
def Q_rmAd31 (Z : State) (a1 : Addr) (a2 : Addr) (d f0 : Addr) (kd : ClassId) (h0 : Heap) (n0 : Nat) (v : Option Value) (h : Heap) (L : List Loc) : Prop := v = none ∧ Fr n0 L ∧ Keep h0 h [a1, d] ∧ Exa Z h a1 "java/util/ArrayList" ∧ Fld Z h a1 "java/util/ArrayList" "elementData" "[Ljava/lang/Object;" (.ref d) ∧ Fld Z h a1 "java/util/ArrayList" "size" "I" (.int 2) ∧ Fld Z h a1 "java/util/AbstractList" "modCount" "I" (.int 2) ∧ Exa Z h d "[Ljava/lang/Object;" ∧ Arv Z h d kd (.object "java/lang/Object") (10 : Int32) [(.ref f0), (.ref a2), .null, .null, .null, .null, .null, .null, .null, .null] .null ∧ Ovr Z kd "java/lang/Object"
theorem rmAd31 (l : Launch) (Z : State) (a0 : Array Value) (hw : HW a0 Z) (ws : List Jvm.Cond) (a1 : Addr) (a2 : Addr) (d f0 : Addr) (kd : ClassId) (h0 : Heap) (n0 : Nat) (O0 : Old Z n0 h0) (g1 : n0 ≤ a1) (gd : n0 ≤ d) (ne : @Ne Nat a1 d) (El : Exa Z h0 a1 "java/util/ArrayList") (Ld : Fld Z h0 a1 "java/util/ArrayList" "elementData" "[Ljava/lang/Object;" (.ref d)) (Ln : Fld Z h0 a1 "java/util/ArrayList" "size" "I" (.int 1)) (Lm : Fld Z h0 a1 "java/util/AbstractList" "modCount" "I" (.int 2)) (Ea : Exa Z h0 d "[Ljava/lang/Object;") (Va : Arv Z h0 d kd (.object "java/lang/Object") (10 : Int32) [(.ref f0), .null, .null, .null, .null, .null, .null, .null, .null, .null] .null) (Oa : Ovr Z kd "java/lang/Object") (Eo : Exa Z h0 a2 "java/lang/String") :
  MF l mN39 jdk_38_method_24_code 4 none ws (Rm 0 0 0 0) Z #[(.ref a1), (.ref a2), (.ref d), (.int 1)] h0 (Q_rmAd31 Z a1 a2 d f0 kd h0 n0) := by
 refine MetFree.of_bodySF (plainFor_of_name pn_12) hisR ?_
 intro p e s m args below meth c s₁ Bd hml0 hP hK
 obtain ⟨rfl, hZ, hh⟩ := hP
 have hx := Bd.exec
 have hby := Bd.bytes
 have hml : c.maxLocals = 4 := hml0
 have hown : s.vm.findClass "java/util/ArrayList" = some m.cls := findClass_of_methodNamed Bd.named
 have X0 : Stand p l e (Rm 0 0 0 0) s m #[(.ref a1), (.ref a2), (.ref d), (.int 1)] below meth c s₁ [] 0 0 := Stand.of_body Bd
 have e0 : s₁.heap = h0 := by rw [← hh, Bd.state]; rfl
 have N0 := Fr.nil n0
 have hn0 : n0 ≤ h0.size := O0.1 ▸ O0.2.1
 have pre0 : ∀ t, SS p e below s₁ m 0 #[vR a1, vR a2, vR d, vI 1] [] t → SE p e below s₁ m #[(.ref a1), (.ref a2), (.ref d), (.int 1)] 4 t := fun t k => castTop (ef_rmAd31 m a1 a2 d) k
 have lt_a1 : @LT.lt Nat _ a1 h0.size := El.lt
 have lt_a2 : @LT.lt Nat _ a2 h0.size := Eo.lt
 have lt_d : @LT.lt Nat _ d h0.size := Va.lt
 obtain ⟨cl101, Ar101, q101, S101, Nn101, H101, G101⟩ := id Va
 obtain ⟨cl102, Ar102, q102, S102, Nn102, H102, G102⟩ := id Va
 obtain ⟨T103, h103, X103, e103, W103, st103⟩ := stR X0 hx hZ e0 Ar102 (j := (1 : Int32)) (inb_of S102 ⟨by decide, by decide⟩) rfl (Sto.ofV Ar102 q102 Oa (Ins.of_exa Eo (tw hw 283 rfl))) (g := (mkF m 14 #[vR a1, vR a2, vR d, vI 1] [(.ref a2), (.int 1), (.ref d)])) rfl rfl (hb hby d45_14)
 have V103 : Arv Z h103 d kd (.object "java/lang/Object") (10 : Int32) [(.ref f0), (.ref a2), .null, .null, .null, .null, .null, .null, .null, .null] .null := Arv.set Ar102 q102 S102 Nn102 H102 G102 rfl W103 1 rfl (Nat.le_of_ble_eq_true rfl)
 have K103 := Keep.of_wr W103
 have N103 := Fr.snoc X103 N0 (by omega : @LE.le Nat _ n0 d)
 have sz1_K103 := K103.1
 have hr104 : ((1 : Int32) + (1 : Int32)) = (2 : Int32) := by decide
 have C105 := El.keep K103
 have C106 := Ln.keep K103 (ninS (by omega : @Ne Nat a1 d) (nin0))
 obtain ⟨T107, h107, X107, e107, W107, st107⟩ := putF X103 hx hZ hown (host := "") (Or.inl (tw hw 94 rfl)) Via.refl e103 C106 C105 (Or.inl (tw hw 95 rfl)) (tw hw 55 rfl) (ty := .int) (by decide) rfl rfl (g := (mkF m 19 #[vR a1, vR a2, vR d, vI 1] [(.int 2), (.ref a1)])) rfl rfl (hb hby d45_19)
 have K107 := Keep.of_wr W107
 have Fw107 := Fld.same W107 C106
 have N107 := Fr.snoc X107 N103 (by omega : @LE.le Nat _ n0 a1)
 have sz2_K107 := K107.1
 have KC108 : Keep h0 h103 [a1, d] := (Keep.refl h0 [a1, d]).trans K103 (allS (Or.inl (List.mem_of_getElem? (i := 1) rfl)) (all0))
 have KC109 : Keep h0 h107 [a1, d] := KC108.trans K107 (allS (Or.inl (List.mem_of_getElem? (i := 0) rfl)) (all0))
 have C110 := C105.keep K107
 have C111 := Ld.keep K103 (ninS (by omega : @Ne Nat a1 d) (nin0))
 have C112 := Fld.other W107 C111 (Or.inr (slot_ne (Or.inl (tw hw 77 rfl)) (Or.inl (tw hw 95 rfl)) (by decide) (t := (.array (.object "java/lang/Object"))) (t' := .int) (by decide) (by decide)))
 have C113 := Lm.keep K103 (ninS (by omega : @Ne Nat a1 d) (nin0))
 have C114 := Fld.other W107 C113 (Or.inr (slot_ne (Or.inl (tw hw 74 rfl)) (Or.inl (tw hw 95 rfl)) (by decide) (t := .int) (t' := .int) (by decide) (by decide)))
 have KD115 : Keep h0 h107 [d, a1] := ((Keep.refl _ _).trans K103 (allS (Or.inl (List.mem_of_getElem? (i := 0) rfl)) (all0))).trans K107 (allS (Or.inl (List.mem_of_getElem? (i := 1) rfl)) (all0))
 have C116 := Ea.keep KD115
 have C117 := V103.keep K107 (ninS (by omega : @Ne Nat d a1) (nin0))
 obtain ⟨fs, hr, hrun, hended, hW, hsame⟩ := X107.leave (v := none) (fun _ => rfl)
 refine ⟨_, _, pre0 _ ?_, hrun, hended, _, _, rfl, ?_, ⟨_, rfl⟩, hW, hsame.mono (by decide) (by decide)⟩
 ·skip
  show SS p e below s₁ m 0 #[vR a1, vR a2, vR d, vI 1] [] _
  refine XS.iloadN X0.here hx rfl (hb hby d45_0) rfl ?_
  refine XS.aloadN X0.here hx rfl (hb hby d45_1) rfl rfl ?_
  show SS p e below s₁ m 2 #[vR a1, vR a2, vR d, vI 1] [(.ref d), (.int 1)] _
  refine X0.arraylength hx (by rw [e0]; exact Ar101.1) (State.isArrayOf_alike hZ.alike Ar101.2.1) (g := (mkF m 2 #[vR a1, vR a2, vR d, vI 1] [(.ref d), (.int 1)])) rfl rfl (hb hby d45_2) _ ?_
  rw [len_of S101 Nn101]
  refine XS.icmpYes X0.here hx rfl (pc0 := 3) (pc' := 11) rfl (hb hby d45_3) rfl (feq (by decide : ¬ ((1 : Int32) = (10 : Int32)))).2 (by decide) (by decide) ?_
  refine XS.aloadN X0.here hx rfl (hb hby d45_11) rfl rfl ?_
  refine XS.iloadN X0.here hx rfl (hb hby d45_12) rfl ?_
  refine XS.aloadN X0.here hx rfl (hb hby d45_13) rfl rfl ?_
  show SS p e below s₁ m 14 #[vR a1, vR a2, vR d, vI 1] [(.ref a2), (.int 1), (.ref d)] _
  refine st103 _ ?_
  refine XS.aloadN X103.here hx rfl (hb hby d45_15) rfl rfl ?_
  refine XS.iloadN X103.here hx rfl (hb hby d45_16) rfl ?_
  refine XS.iconst X103.here hx rfl (hb hby d45_17) ?_
  refine XS.iadd X103.here hx rfl (hb hby d45_18) rfl ?_
  show SS p e below T103 m 19 #[vR a1, vR a2, vR d, vI 1] [(.int ((1 : Int32) + (1 : Int32))), (.ref a1)] _
  rw [hr104]
  show SS p e below T103 m 19 #[vR a1, vR a2, vR d, vI 1] [(.int 2), (.ref a1)] _
  refine st107 _ ?_
  show SS p e below T107 m 22 #[vR a1, vR a2, vR d, vI 1] [] _
  exact X107.returnOut hx Bd.returns (hb hby d45_22) hr
 ·show Q_rmAd31 Z a1 a2 d f0 kd h0 n0 _ T107.heap _
  rw [e107]
  exact ⟨rfl, N107, KC109, C110, C112, Fw107, C114, C116, C117, Oa⟩
theorem ef_rmAd1 (m : MethodId) (y0 : Addr) (y1 : Addr) : entryFrame m #[(.ref y0), (.ref y1)] 2 = (mkF m 0 #[vR y0, vR y1] []) := by first | (simp [entryFrame, mkF, argsToLocals, Value.category]; done) | rfl
def Q_rmAd1 (Z : State) (a1 : Addr) (a2 : Addr) (d f0 : Addr) (kd : ClassId) (h0 : Heap) (n0 : Nat) (v : Option Value) (h : Heap) (L : List Loc) : Prop := v = some (.int 1) ∧ Fr n0 L ∧ Keep h0 h [a1, d] ∧ Exa Z h a1 "java/util/ArrayList" ∧ Fld Z h a1 "java/util/ArrayList" "elementData" "[Ljava/lang/Object;" (.ref d) ∧ Fld Z h a1 "java/util/ArrayList" "size" "I" (.int 2) ∧ Fld Z h a1 "java/util/AbstractList" "modCount" "I" (.int 2) ∧ Exa Z h d "[Ljava/lang/Object;" ∧ Arv Z h d kd (.object "java/lang/Object") (10 : Int32) [(.ref f0), (.ref a2), .null, .null, .null, .null, .null, .null, .null, .null] .null ∧ Ovr Z kd "java/lang/Object"
theorem rmAd1 (l : Launch) (Z : State) (a0 : Array Value) (hw : HW a0 Z) (ws : List Jvm.Cond) (a1 : Addr) (a2 : Addr) (d f0 : Addr) (kd : ClassId) (h0 : Heap) (n0 : Nat) (O0 : Old Z n0 h0) (g1 : n0 ≤ a1) (gd : n0 ≤ d) (ne : @Ne Nat a1 d) (El : Exa Z h0 a1 "java/util/ArrayList") (Ld : Fld Z h0 a1 "java/util/ArrayList" "elementData" "[Ljava/lang/Object;" (.ref d)) (Ln : Fld Z h0 a1 "java/util/ArrayList" "size" "I" (.int 1)) (Lm : Fld Z h0 a1 "java/util/AbstractList" "modCount" "I" (.int 1)) (Ea : Exa Z h0 d "[Ljava/lang/Object;") (Va : Arv Z h0 d kd (.object "java/lang/Object") (10 : Int32) [(.ref f0), .null, .null, .null, .null, .null, .null, .null, .null, .null] .null) (Oa : Ovr Z kd "java/lang/Object") (Eo : Exa Z h0 a2 "java/lang/String") :
  MF l mN40 jdk_38_method_25_code 2 (some .boolean) ws (Rm 1 0 0 30) Z #[(.ref a1), (.ref a2)] h0 (Q_rmAd1 Z a1 a2 d f0 kd h0 n0) := by
 refine MetFree.of_bodySF (plainFor_of_name pn_12) hisR ?_
 intro p e s m args below meth c s₁ Bd hml0 hP hK
 obtain ⟨rfl, hZ, hh⟩ := hP
 have hx := Bd.exec
 have hby := Bd.bytes
 have hml : c.maxLocals = 2 := hml0
 have hown : s.vm.findClass "java/util/ArrayList" = some m.cls := findClass_of_methodNamed Bd.named
 have X0 : Stand p l e (Rm 1 0 0 30) s m #[(.ref a1), (.ref a2)] below meth c s₁ [] 0 0 := Stand.of_body Bd
 have e0 : s₁.heap = h0 := by rw [← hh, Bd.state]; rfl
 have N0 := Fr.nil n0
 have hn0 : n0 ≤ h0.size := O0.1 ▸ O0.2.1
 have pre0 : ∀ t, SS p e below s₁ m 0 #[vR a1, vR a2] [] t → SE p e below s₁ m #[(.ref a1), (.ref a2)] 2 t := fun t k => castTop (ef_rmAd1 m a1 a2) k
 have lt_a1 : @LT.lt Nat _ a1 h0.size := El.lt
 have lt_a2 : @LT.lt Nat _ a2 h0.size := Eo.lt
 have lt_d : @LT.lt Nat _ d h0.size := Va.lt
 obtain ⟨T101, X101, e101, st101⟩ := getF X0 hx hZ hown (host := "") (Or.inl (tw hw 261 rfl)) (Via.of (tw hw 262 rfl)) e0 Lm (g := (mkF m 2 #[vR a1, vR a2] [(.ref a1), (.ref a1)])) rfl rfl (hb hby d44_2)
 have hr102 : ((1 : Int32) + (1 : Int32)) = (2 : Int32) := by decide
 obtain ⟨T103, h103, X103, e103, W103, st103⟩ := putF X101 hx hZ hown (host := "") (Or.inl (tw hw 261 rfl)) (Via.of (tw hw 262 rfl)) e101 Lm El (Or.inl (tw hw 74 rfl)) (tw hw 55 rfl) (ty := .int) (by decide) rfl rfl (g := (mkF m 7 #[vR a1, vR a2] [(.int 2), (.ref a1)])) rfl rfl (hb hby d44_7)
 have K103 := Keep.of_wr W103
 have Fw103 := Fld.same W103 Lm
 have N103 := Fr.snoc X103 N0 (by omega : @LE.le Nat _ n0 a1)
 have sz1_K103 := K103.1
 have C104 := Fld.other W103 Ld (Or.inr (slot_ne (Or.inl (tw hw 77 rfl)) (Or.inl (tw hw 74 rfl)) (by decide) (t := (.array (.object "java/lang/Object"))) (t' := .int) (by decide) (by decide)))
 obtain ⟨T105, X105, e105, st105⟩ := getF X103 hx hZ hown (host := "") (Or.inl (tw hw 76 rfl)) Via.refl e103 C104 (g := (mkF m 13 #[vR a1, vR a2] [(.ref a1), (.ref a2), (.ref a1)])) rfl rfl (hb hby d44_13)
 have C106 := Fld.other W103 Ln (Or.inr (slot_ne (Or.inl (tw hw 95 rfl)) (Or.inl (tw hw 74 rfl)) (by decide) (t := .int) (t' := .int) (by decide) (by decide)))
 obtain ⟨T107, X107, e107, st107⟩ := getF X105 hx hZ hown (host := "") (Or.inl (tw hw 94 rfl)) Via.refl e105 C106 (g := (mkF m 17 #[vR a1, vR a2] [(.ref a1), (.ref d), (.ref a2), (.ref a1)])) rfl rfl (hb hby d44_17)
 have C109 := El.keep K103
 have C110 := Ea.keep K103
 have C111 := Va.keep K103 (ninS (by omega : @Ne Nat d a1) (nin0))
 have C112 := Eo.keep K103
 have O113 : Old Z n0 h103 := O0.keep K103 (allS (by omega) (all0))
 obtain ⟨cq108, q108, q108'⟩ := (Ins.self C109).cell
 obtain ⟨_, _, ⟨T108, L108, k108, n108⟩, -, X108, ⟨Lc108, hQ108, l108, y108, z108⟩, st108⟩ := X107.privateBack hx (y := mN39) hown (mvT hZ (tw hw 263 rfl)) (mvT hZ (tw hw 264 rfl)) (mvT hZ (tw hw 266 rfl)) (Cond.privateMethod_at (mvP hZ (tw hw 265 rfl) (args := #[]))) (mvT hZ (tw hw 267 rfl)) (by decide) (backOf (W := 0) (rmAd31 l Z a0 hw [] a1 a2 d f0 kd h103 n0 O113 (by omega : @LE.le Nat _ n0 a1) (by omega : @LE.le Nat _ n0 d) (by omega) C109 C104 C106 Fw103 C110 C111 Oa C112) hZ (tw hw 267 rfl) (tw hw 56 rfl) (by decide) (by decide)) (g := (mkF m 20 #[vR a1, vR a2] [(.int 1), (.ref d), (.ref a2), (.ref a1)])) rfl (by rw [hml]; rfl) (Steps.refl _) (a := a1) (by rw [e107]; exact q108) q108' (argsL := [(.ref a2), (.ref d), (.int 1)]) (rest := []) (lenOf pd_31 rfl) rfl (wL _) (hb hby d44_20) (fun _ _ => ⟨rfl, e107, (by decide : 0 + 0 ≤ _), (by decide : 0 + 0 ≤ _)⟩)
 dsimp only [Pt.U, Pt.locs, Pt.cells, Pt.slots] at X108 l108 y108 z108 st108 hQ108
 rw [l108] at X108
 subst y108 z108
 obtain ⟨rfl, N108q, K108, El108, Ld108, Ln108, Lm108, Ea108, Va108, Oa108⟩ := hQ108
 have sz2_K108 := K108.1
 have N108 := Fr.app N103 N108q
 have KC114 : Keep h0 h103 [a1, d] := (Keep.refl h0 [a1, d]).trans K103 (allS (Or.inl (List.mem_of_getElem? (i := 0) rfl)) (all0))
 have KC115 : Keep h0 T108.heap [a1, d] := KC114.trans K108 (allS (Or.inl (List.mem_of_getElem? (i := 0) rfl)) (allS (Or.inl (List.mem_of_getElem? (i := 1) rfl)) (all0)))
 obtain ⟨fs, hr, hrun, hended, hW, hsame⟩ := X108.leave (v := some (.int 1)) (nvr Bd.returns)
 refine ⟨_, _, pre0 _ ?_, hrun, hended, _, _, rfl, ?_, ⟨_, rfl⟩, hW, hsame.mono (by decide) (by decide)⟩
 ·skip
  show SS p e below s₁ m 0 #[vR a1, vR a2] [] _
  refine XS.aloadN X0.here hx rfl (hb hby d44_0) rfl rfl ?_
  refine XS.dup X0.here hx rfl (hb hby d44_1) rfl rfl ?_
  show SS p e below s₁ m 2 #[vR a1, vR a2] [(.ref a1), (.ref a1)] _
  refine st101 _ ?_
  refine XS.iconst X101.here hx rfl (hb hby d44_5) ?_
  refine XS.iadd X101.here hx rfl (hb hby d44_6) rfl ?_
  show SS p e below T101 m 7 #[vR a1, vR a2] [(.int ((1 : Int32) + (1 : Int32))), (.ref a1)] _
  rw [hr102]
  show SS p e below T101 m 7 #[vR a1, vR a2] [(.int 2), (.ref a1)] _
  refine st103 _ ?_
  refine XS.aloadN X103.here hx rfl (hb hby d44_10) rfl rfl ?_
  refine XS.aloadN X103.here hx rfl (hb hby d44_11) rfl rfl ?_
  refine XS.aloadN X103.here hx rfl (hb hby d44_12) rfl rfl ?_
  show SS p e below T103 m 13 #[vR a1, vR a2] [(.ref a1), (.ref a2), (.ref a1)] _
  refine st105 _ ?_
  refine XS.aloadN X105.here hx rfl (hb hby d44_16) rfl rfl ?_
  show SS p e below T105 m 17 #[vR a1, vR a2] [(.ref a1), (.ref d), (.ref a2), (.ref a1)] _
  refine st107 _ ?_
  show SS p e below T107 m 20 #[vR a1, vR a2] [(.int 1), (.ref d), (.ref a2), (.ref a1)] _
  refine st108.trans ?_
  refine XS.iconst X108.here hx rfl (hb hby d44_23) ?_
  show SS p e below T108 m 24 #[vR a1, vR a2] [(.int 1)] _
  exact retN X108 hx (t := .boolean) Bd.returns (by simp) (hb hby d44_24) hr
 ·show Q_rmAd1 Z a1 a2 d f0 kd h0 n0 _ T108.heap _
  exact ⟨rfl, N108, KC115, El108, Ld108, Ln108, Lm108, Ea108, Va108, Oa108⟩
theorem d22_0 : DK cD39 0 (.aload_n 0) 1 := by decide +kernel
theorem d22_1 : DK cD39 1 (.getfield 10) 3 := by decide +kernel
theorem d22_4 : DK cD39 4 (.new 16) 3 := by decide +kernel
theorem d22_7 : DK cD39 7 (.dup) 1 := by decide +kernel
theorem d22_8 : DK cD39 8 (.invokespecial 18) 3 := by decide +kernel
theorem d22_11 : DK cD39 11 (.ldc 19) 2 := by decide +kernel
theorem d22_13 : DK cD39 13 (.invokevirtual 21) 3 := by decide +kernel
theorem d22_16 : DK cD39 16 (.aload_n 1) 1 := by decide +kernel
theorem d22_17 : DK cD39 17 (.invokevirtual 21) 3 := by decide +kernel
theorem d22_20 : DK cD39 20 (.ldc 25) 2 := by decide +kernel
theorem d22_22 : DK cD39 22 (.invokevirtual 21) 3 := by decide +kernel
theorem d22_25 : DK cD39 25 (.aload_n 2) 1 := by decide +kernel
theorem d22_26 : DK cD39 26 (.invokevirtual 21) 3 := by decide +kernel
theorem d22_29 : DK cD39 29 (.invokevirtual 27) 3 := by decide +kernel
theorem d22_32 : DK cD39 32 (.invokeinterface 31 2) 5 := by decide +kernel
theorem d22_37 : DK cD39 37 (.pop) 1 := by decide +kernel
theorem d22_38 : DK cD39 38 (.return_) 1 := by decide +kernel
theorem pd_16 : parseMethodDescriptor "(Ljava/lang/String;)Ljava/lang/StringBuilder;" = some ⟨[(.object "java/lang/String")], some (.object "java/lang/StringBuilder")⟩ := by decide +kernel
theorem pd_23 : parseMethodDescriptor "()Ljava/lang/String;" = some ⟨[], some (.object "java/lang/String")⟩ := by decide +kernel
theorem pd_30 : parseMethodDescriptor "(Ljava/lang/Object;)Z" = some ⟨[(.object "java/lang/Object")], some .boolean⟩ := by decide +kernel
theorem ef_rmMadd0 (m : MethodId) (y0 : Addr) (y1 : Addr) (y2 : Addr) : entryFrame m #[(.ref y0), (.ref y1), (.ref y2)] 3 = (mkF m 0 #[vR y0, vR y1, vR y2] []) := by first | (simp [entryFrame, mkF, argsToLocals, Value.category]; done) | rfl
def Q_rmMadd0 (Z : State) (a1 : Addr) (a2 : Addr) (a3 : Addr) (cs0 : Int32) (b2 b3 : List Int32) (t2 t3 : Addr) (k2 k3 : ClassId) (x : Addr) (dd : Addr) (kD : ClassId) (h0 : Heap) (n0 : Nat) (v : Option Value) (h : Heap) (L : List Loc) : Prop := ∃ (y t d : Addr) (kb kd : ClassId), v = none ∧ Fr n0 L ∧ Keep h0 h [x] ∧ h0.size ≤ y ∧ h0.size ≤ t ∧ h0.size ≤ d ∧ @Ne Nat y d ∧ @Ne Nat t d ∧ @Ne Nat t y ∧ Exa Z h y "java/lang/String" ∧ Fld Z h y "java/lang/String" "value" "[B" (.ref t) ∧ Fld Z h y "java/lang/String" "coder" "B" (.int 0) ∧ Arv Z h t kb .byte (Int32.ofNat ((((([] : List Int32) ++ ([101, 114, 114, 111, 114, 91] : List Int32)) ++ b2) ++ ([93, 58, 32] : List Int32)) ++ b3).length) (((((([] : List Int32) ++ ([101, 114, 114, 111, 114, 91] : List Int32)) ++ b2) ++ ([93, 58, 32] : List Int32)) ++ b3).map Value.int) (.int 0) ∧ Exa Z h x "java/util/ArrayList" ∧ Fld Z h x "java/util/ArrayList" "elementData" "[Ljava/lang/Object;" (.ref d) ∧ Fld Z h x "java/util/ArrayList" "size" "I" (.int 1) ∧ Fld Z h x "java/util/AbstractList" "modCount" "I" (.int 1) ∧ Exa Z h d "[Ljava/lang/Object;" ∧ Arv Z h d kd (.object "java/lang/Object") (10 : Int32) [(.ref y), .null, .null, .null, .null, .null, .null, .null, .null, .null] .null ∧ Ovr Z kd "java/lang/Object"
theorem rmMadd0 (l : Launch) (Z : State) (a0 : Array Value) (hw : HW a0 Z) (ws : List Jvm.Cond) (a1 : Addr) (a2 : Addr) (a3 : Addr) (cs0 : Int32) (b2 b3 : List Int32) (t2 t3 : Addr) (k2 k3 : ClassId) (x : Addr) (dd : Addr) (kD : ClassId) (h0 : Heap) (n0 : Nat) (O0 : Old Z n0 h0) (S_CS : SCS Z cs0) (c_CS : ¬ (cs0 = (0 : Int32))) (S_DC : Sta Z Z.heap "java/util/ArrayList" "DEFAULTCAPACITY_EMPTY_ELEMENTDATA" "[Ljava/lang/Object;" (.ref dd)) (V_DC : Arv Z Z.heap dd kD (.object "java/lang/Object") (0 : Int32) [] .null) (gx : n0 ≤ x) (hbb : b2.length + b3.length ≤ 6) (Em : Exa Z h0 a1 "com/example/nroute/nroute/route/Mistakes") (Ml : Fld Z h0 a1 "com/example/nroute/nroute/route/Mistakes" "lines" "Ljava/util/List;" (.ref x)) (El : Exa Z h0 x "java/util/ArrayList") (Ld : Fld Z h0 x "java/util/ArrayList" "elementData" "[Ljava/lang/Object;" (.ref dd)) (Ln : Fld Z h0 x "java/util/ArrayList" "size" "I" (.int 0)) (Lm : Fld Z h0 x "java/util/AbstractList" "modCount" "I" (.int 0)) (Es2 : Exa Z h0 a2 "java/lang/String") (Sv2 : Fld Z h0 a2 "java/lang/String" "value" "[B" (.ref t2)) (Sc2 : Fld Z h0 a2 "java/lang/String" "coder" "B" (.int 0)) (Vs2 : Arv Z h0 t2 k2 .byte (Int32.ofNat b2.length) (b2.map Value.int) (.int 0)) (Es3 : Exa Z h0 a3 "java/lang/String") (Sv3 : Fld Z h0 a3 "java/lang/String" "value" "[B" (.ref t3)) (Sc3 : Fld Z h0 a3 "java/lang/String" "coder" "B" (.int 0)) (Vs3 : Arv Z h0 t3 k3 .byte (Int32.ofNat b3.length) (b3.map Value.int) (.int 0)) :
  MetFree l mN41 (head1 (Jvm.Cond.code mN41 prog_26_method_2_code 3 none :: ws) (Rm 6 9 94 170)) (fun a U => a = #[(.ref a1), (.ref a2), (.ref a3)] ∧ Z.Warmed39 U.vm ∧ U.heap = h0 ∧ CHv Z EL1 U.vm h0) (fun _ _ _ _ _ => True) (fun _ U o U' => ∃ v L, o = .returned v ∧ Q_rmMadd0 Z a1 a2 a3 cs0 b2 b3 t2 t3 k2 k3 x dd kD h0 n0 v U'.heap L ∧ CHr Z EL1 U.vm U.heap U'.vm U'.heap ∧ ReturnedEndW U o U' L (Rm 6 9 94 170).cells (Rm 6 9 94 170).slots) := by
 refine MetFree.of_bodySF (plainFor_of_name pn_11) hisR ?_
 intro p e s m args below meth c s₁ Bd hml0 hP hK
 obtain ⟨rfl, hZ, hh, hCH⟩ := hP
 have hx := Bd.exec
 have hby := Bd.bytes
 have hml : c.maxLocals = 3 := hml0
 have hown : s.vm.findClass "com/example/nroute/nroute/route/Mistakes" = some m.cls := findClass_of_methodNamed Bd.named
 have X0 : Stand p l e (Rm 6 9 94 170) s m #[(.ref a1), (.ref a2), (.ref a3)] below meth c s₁ [] 0 0 := Stand.of_body Bd
 have e0 : s₁.heap = h0 := by rw [← hh, Bd.state]; rfl
 have N0 := Fr.nil n0
 have hn0 : n0 ≤ h0.size := O0.1 ▸ O0.2.1
 have CR0 := CHr.refl hCH
 have hS0 : s.Since s.vm h0.size := (State.WarmedH.refl s).since _
 have pre0 : ∀ t, SS p e below s₁ m 0 #[vR a1, vR a2, vR a3] [] t → SE p e below s₁ m #[(.ref a1), (.ref a2), (.ref a3)] 3 t := fun t k => castTop (ef_rmMadd0 m a1 a2 a3) k
 have wStr : ∀ d ∈ Bundle.stringAtoms, d.before a0 Z = true := fun d hd => hw d ((by decide +kernel : ∀ d ∈ Bundle.stringAtoms, d ∈ tables_1) d hd)
 have hEW : EW Z a0 EL1 := EW.cons (tw hw 159 rfl) (by decide) (EW.cons (tw hw 207 rfl) (by decide) (EW.cons (tw hw 44 rfl) (by decide) EW.nil))
 have lt_x : @LT.lt Nat _ x h0.size := El.lt
 have lt_a1 : @LT.lt Nat _ a1 h0.size := Em.lt
 have lt_a2 : @LT.lt Nat _ a2 h0.size := Es2.lt
 have lt_a3 : @LT.lt Nat _ a3 h0.size := Es3.lt
 have lt_t2 : @LT.lt Nat _ t2 h0.size := Vs2.lt
 have lt_t3 : @LT.lt Nat _ t3 h0.size := Vs3.lt
 obtain ⟨T101, X101, e101, st101⟩ := getF X0 hx hZ hown (host := "") (Or.inl (tw hw 78 rfl)) Via.refl e0 Ml (g := (mkF m 1 #[vR a1, vR a2, vR a3] [(.ref a1)])) rfl rfl (hb hby d22_1)
 obtain ⟨T102, h102, X102, e102, E102, A102, D102, -, st102⟩ := newO X101 hx hZ hown (tw hw 141 rfl) (tw hw 142 rfl) (tw hw 143 rfl) e101 (g := (mkF m 4 #[vR a1, vR a2, vR a3] [(.ref x)])) rfl (hb hby d22_4) (by decide) (by decide)
 obtain ⟨b102, g102⟩ : ∃ z, z = h0.size := ⟨_, rfl⟩
 rw [← g102] at A102 D102 st102
 have lt102 : @LT.lt Nat _ b102 h102.size := A102.lt
 have K102 : Keep h0 h102 [] := (Keep.refl _ _).ext E102
 have cR1_K102 := CR0.trans (CHr.keep K102 sf0 CR0.1)
 have sz1_K102 := K102.1
 have F102_value : Fld Z h102 b102 "java/lang/AbstractStringBuilder" "value" "[B" .null := D102 (Or.inl (tw hw 156 rfl)) (ty := (.array .byte)) (by decide)
 have F102_coder : Fld Z h102 b102 "java/lang/AbstractStringBuilder" "coder" "B" (.int 0) := D102 (Or.inl (tw hw 158 rfl)) (ty := .byte) (by decide)
 have F102_count : Fld Z h102 b102 "java/lang/AbstractStringBuilder" "count" "I" (.int 0) := D102 (Or.inl (tw hw 181 rfl)) (ty := .int) (by decide)
 have O104 : Old Z n0 h102 := O0.keep K102 all0
 obtain ⟨_, _, ⟨T103, L103, k103, n103⟩, -, X103, ⟨Lc103, hQ103, l103, y103, z103⟩, st103⟩ := X102.specialBack hx (y := mN8) rfl hown (mvT hZ (tw hw 144 rfl)) (mvT hZ (tw hw 145 rfl)) (mvT hZ (tw hw 146 rfl)) (by decide) (backOf (W := 2) (rmSi l Z a0 hw [] b102 cs0 h102 n0 O104 S_CS c_CS (by omega : @LE.le Nat _ n0 b102) A102 F102_value F102_coder F102_count) hZ (tw hw 146 rfl) (tw hw 143 rfl) (by decide) (by decide)) (g := (mkF m 8 #[vR a1, vR a2, vR a3] [(.ref b102), (.ref b102), (.ref x)])) rfl (by rw [hml]; rfl) (Steps.refl _) (a := b102) (argsL := []) (rest := [(.ref b102), (.ref x)]) (lenOf pd_2 rfl) rfl (wL _) (hb hby d22_8) (fun _ _ => ⟨rfl, e102, (by decide : 1 + 1 ≤ _), (by decide : 4 + 16 ≤ _)⟩)
 dsimp only [Pt.U, Pt.locs, Pt.cells, Pt.slots] at X103 l103 y103 z103 st103 hQ103
 rw [l103] at X103
 subst y103 z103
 obtain ⟨v103, kv103, rfl, N103q, K103, gv103, Eb103, Bv103, Bc103, Bn103, Vb103⟩ := hQ103
 have ltv103 : @LT.lt Nat _ v103 T103.heap.size := Vb103.lt
 have hs2_K103 : ∀ zz ∈ ([b102] : List Addr), Safe Z EL1 s.vm h102 zz := sfS (Safe.exa hZ.alike A102 (by decide) (by decide)) (sf0)
 have cR2_K103 := cR1_K102.trans (CHr.keep K103 hs2_K103 cR1_K102.1)
 have sz2_K103 := K103.1
 have N103 := Fr.app N0 N103q
 obtain ⟨b105, T105, h105, k105, t105, kb105, X105, e105, E105, hS105, hk105, hZ105, hown105, Ea105, Fc105, Fv105, Av105, la105, lb105, CR105, Li105, nq105, st105⟩ := ldcCH (s := s) (vm0 := s.vm) X103 hx hZ hown (tw hw 159 rfl) wStr rfl hS0 (by omega) hEW (by simp [EL1]) cR2_K103.1 (vs := (([101, 114, 114, 111, 114, 91] : List Int32).map Value.int)) (z := (Int32.ofNat ([101, 114, 114, 111, 114, 91] : List Int32).length)) ⟨by decide, by decide⟩ (by decide) (by decide) (g := (mkF m 11 #[vR a1, vR a2, vR a3] [(.ref b102), (.ref x)])) rfl (hb hby d22_11) (n := 24) (by decide) (by decide) (by decide) (by decide)
 have lta105 : @LT.lt Nat _ b105 h105.size := la105
 have ltb105 : @LT.lt Nat _ t105 h105.size := lb105
 have K105 : Keep T103.heap h105 [] := (Keep.refl _ _).ext E105
 have cR3_K105 := cR2_K103.trans CR105
 have sz3_K105 := K105.1
 have C106 := Eb103.keep K105
 have nu105_b102 := nq105 b102 (Safe.exa hZ105.alike C106 (by decide) (by decide))
 have nx105_b102 : @Ne Nat b102 b105 := nu105_b102.1
 have ny105_b102 : @Ne Nat b102 t105 := nu105_b102.2
 have Sf107 : Safe Z EL1 s.vm h102 v103 := Safe.new (by omega)
 have Sf108 := Safe.keep K103 hs2_K103 cR1_K102.1 Sf107
 have Sf109 := CHr.safe CR105 (show @LT.lt Nat _ v103 T103.heap.size by omega) Sf108
 have nu105_v103 := nq105 v103 Sf109
 have nx105_v103 : @Ne Nat v103 b105 := nu105_v103.1
 have ny105_v103 : @Ne Nat v103 t105 := nu105_v103.2
 have C111 := Bv103.keep K105 nin0
 have C112 := Bc103.keep K105 nin0
 have C113 := Bn103.keep K105 nin0
 have C114 := Vb103.keep K105 nin0
 have O115 : Old Z n0 T103.heap := O104.keep K103 (allS (by omega) (all0))
 have O116 : Old Z n0 h105 := O115.keep K105 all0
 obtain ⟨cq110, kq110, q110a, q110b, q110c⟩ := isOf hZ105 e105 C106
 obtain ⟨_, _, ⟨T110, L110, k110, n110⟩, -, X110, ⟨Lc110, hQ110, l110, y110, z110⟩, st110⟩ := X105.virtualBack hx (y := mN14) (z := mN14) hown105 (mvT hZ105 (tw hw 160 rfl)) (mvT hZ105 (tw hw 161 rfl)) (notFace_of_selects (args := #[]) (mvT hZ105 (tw hw 163 rfl))) (mvT hZ105 (tw hw 163 rfl)) (mvT hZ105 (tw hw 162 rfl)) (by decide) (backOf (W := 1) (rmSa l Z a0 hw [] b102 b105 ([] : List Int32) ([101, 114, 114, 111, 114, 91] : List Int32) cs0 t105 v103 kb105 kv103 h105 n0 O116 S_CS c_CS Ea105 Fv105 Fc105 Av105 (by simp only [List.length_append, List.length_cons, List.length_nil]; omega) C106 C111 C112 C113 C114 (by omega : @LE.le Nat _ n0 b102) (by omega : @LE.le Nat _ n0 v103) (by omega) (by omega) (by omega) (by omega) (by omega)) hZ105 (tw hw 164 rfl) (tw hw 143 rfl) (by decide) (by decide)) q110a q110c (g := (mkF m 13 #[vR a1, vR a2, vR a3] [(.ref b105), (.ref b102), (.ref x)])) rfl (by rw [hml]; rfl) (Steps.refl _) (argsL := [(.ref b105)]) (rest := [(.ref x)]) (lenOf pd_16 rfl) rfl (wL _) (hb hby d22_13) (fun _ _ => ⟨rfl, e105, (by decide : 4 + 0 ≤ _), (by decide : 48 + 0 ≤ _)⟩)
 dsimp only [Pt.U, Pt.locs, Pt.cells, Pt.slots] at X110 l110 y110 z110 st110 hQ110
 rw [l110] at X110
 subst y110 z110
 obtain ⟨rfl, N110q, K110, Eb110, Bv110, Bc110, Bn110, Vb110⟩ := hQ110
 have hs4_K110 : ∀ zz ∈ ([b102, v103] : List Addr), Safe Z EL1 T105.vm h105 zz := sfS (Safe.exa hZ105.alike C106 (by decide) (by decide)) (sfS Sf109 (sf0))
 have cR4_K110 := cR3_K105.trans (CHr.keep K110 hs4_K110 cR3_K105.1)
 have sz4_K110 := K110.1
 have N110 := Fr.app N103 N110q
 have KD118 : Keep h0 T103.heap [] := ((Keep.refl _ _).trans K102 (all0)).trans K103 (allS (Or.inr (by omega)) (all0))
 have KD119 : Keep h0 h105 [] := ((Keep.refl _ _).trans KD118 (all0)).trans K105 (all0)
 have KD120 : Keep h0 T110.heap [] := ((Keep.refl _ _).trans KD119 (all0)).trans K110 (allS (Or.inr (by omega)) (allS (Or.inr (by omega)) (all0)))
 have C121 := Es2.keep KD120
 have C122 := Sv2.keep KD120 nin0
 have C123 := Sc2.keep KD120 nin0
 have C124 := Vs2.keep KD120 nin0
 have O125 : Old Z n0 T110.heap := O116.keep K110 (allS (by omega) (allS (by omega) (all0)))
 obtain ⟨cq117, kq117, q117a, q117b, q117c⟩ := isOf hZ105 rfl Eb110
 obtain ⟨_, _, ⟨T117, L117, k117, n117⟩, -, X117, ⟨Lc117, hQ117, l117, y117, z117⟩, st117⟩ := X110.virtualBack hx (y := mN14) (z := mN14) hown105 (mvT hZ105 (tw hw 160 rfl)) (mvT hZ105 (tw hw 161 rfl)) (notFace_of_selects (args := #[]) (mvT hZ105 (tw hw 163 rfl))) (mvT hZ105 (tw hw 163 rfl)) (mvT hZ105 (tw hw 162 rfl)) (by decide) (backOf (W := 1) (rmSa l Z a0 hw [] b102 a2 (([] : List Int32) ++ ([101, 114, 114, 111, 114, 91] : List Int32)) b2 cs0 t2 v103 k2 kv103 T110.heap n0 O125 S_CS c_CS C121 C122 C123 C124 (by simp only [List.length_append, List.length_cons, List.length_nil]; omega) Eb110 Bv110 Bc110 Bn110 Vb110 (by omega : @LE.le Nat _ n0 b102) (by omega : @LE.le Nat _ n0 v103) (by omega) (by omega) (by omega) (by omega) (by omega)) hZ105 (tw hw 164 rfl) (tw hw 143 rfl) (by decide) (by decide)) q117a q117c (g := (mkF m 17 #[vR a1, vR a2, vR a3] [(.ref a2), (.ref b102), (.ref x)])) rfl (by rw [hml]; rfl) (Steps.refl _) (argsL := [(.ref a2)]) (rest := [(.ref x)]) (lenOf pd_16 rfl) rfl (wL _) (hb hby d22_17) (fun _ _ => ⟨rfl, rfl, (by decide : 4 + 0 ≤ _), (by decide : 48 + 0 ≤ _)⟩)
 dsimp only [Pt.U, Pt.locs, Pt.cells, Pt.slots] at X117 l117 y117 z117 st117 hQ117
 rw [l117] at X117
 subst y117 z117
 obtain ⟨rfl, N117q, K117, Eb117, Bv117, Bc117, Bn117, Vb117⟩ := hQ117
 have Sf126 := Safe.keep K110 hs4_K110 cR3_K105.1 Sf109
 have hs5_K117 : ∀ zz ∈ ([b102, v103] : List Addr), Safe Z EL1 T105.vm T110.heap zz := sfS (Safe.exa hZ105.alike Eb110 (by decide) (by decide)) (sfS Sf126 (sf0))
 have cR5_K117 := cR4_K110.trans (CHr.keep K117 hs5_K117 cR4_K110.1)
 have sz5_K117 := K117.1
 have N117 := Fr.app N110 N117q
 obtain ⟨b127, T127, h127, k127, t127, kb127, X127, e127, E127, hS127, hk127, hZ127, hown127, Ea127, Fc127, Fv127, Av127, la127, lb127, CR127, Li127, nq127, st127⟩ := ldcCH (s := s) (vm0 := T105.vm) X117 hx hZ105 hown105 (tw hw 207 rfl) wStr rfl hS105 (by omega) hEW (by simp [EL1]) cR5_K117.1 (vs := (([93, 58, 32] : List Int32).map Value.int)) (z := (Int32.ofNat ([93, 58, 32] : List Int32).length)) ⟨by decide, by decide⟩ (by decide) (by decide) (g := (mkF m 20 #[vR a1, vR a2, vR a3] [(.ref b102), (.ref x)])) rfl (hb hby d22_20) (n := 12) (by decide) (by decide) (by decide) (by decide)
 have lta127 : @LT.lt Nat _ b127 h127.size := la127
 have ltb127 : @LT.lt Nat _ t127 h127.size := lb127
 have K127 : Keep T117.heap h127 [] := (Keep.refl _ _).ext E127
 have cR6_K127 := cR5_K117.trans CR127
 have sz6_K127 := K127.1
 have C128 := Eb117.keep K127
 have nu127_b102 := nq127 b102 (Safe.exa hZ127.alike C128 (by decide) (by decide))
 have nx127_b102 : @Ne Nat b102 b127 := nu127_b102.1
 have ny127_b102 : @Ne Nat b102 t127 := nu127_b102.2
 have Sf129 := Safe.keep K117 hs5_K117 cR4_K110.1 Sf126
 have Sf130 := CHr.safe CR127 (show @LT.lt Nat _ v103 T117.heap.size by omega) Sf129
 have nu127_v103 := nq127 v103 Sf130
 have nx127_v103 : @Ne Nat v103 b127 := nu127_v103.1
 have ny127_v103 : @Ne Nat v103 t127 := nu127_v103.2
 have C132 := Bv117.keep K127 nin0
 have C133 := Bc117.keep K127 nin0
 have C134 := Bn117.keep K127 nin0
 have C135 := Vb117.keep K127 nin0
 have O136 : Old Z n0 T117.heap := O125.keep K117 (allS (by omega) (allS (by omega) (all0)))
 have O137 : Old Z n0 h127 := O136.keep K127 all0
 obtain ⟨cq131, kq131, q131a, q131b, q131c⟩ := isOf hZ127 e127 C128
 obtain ⟨_, _, ⟨T131, L131, k131, n131⟩, -, X131, ⟨Lc131, hQ131, l131, y131, z131⟩, st131⟩ := X127.virtualBack hx (y := mN14) (z := mN14) hown127 (mvT hZ127 (tw hw 160 rfl)) (mvT hZ127 (tw hw 161 rfl)) (notFace_of_selects (args := #[]) (mvT hZ127 (tw hw 163 rfl))) (mvT hZ127 (tw hw 163 rfl)) (mvT hZ127 (tw hw 162 rfl)) (by decide) (backOf (W := 1) (rmSa l Z a0 hw [] b102 b127 ((([] : List Int32) ++ ([101, 114, 114, 111, 114, 91] : List Int32)) ++ b2) ([93, 58, 32] : List Int32) cs0 t127 v103 kb127 kv103 h127 n0 O137 S_CS c_CS Ea127 Fv127 Fc127 Av127 (by simp only [List.length_append, List.length_cons, List.length_nil]; omega) C128 C132 C133 C134 C135 (by omega : @LE.le Nat _ n0 b102) (by omega : @LE.le Nat _ n0 v103) (by omega) (by omega) (by omega) (by omega) (by omega)) hZ127 (tw hw 164 rfl) (tw hw 143 rfl) (by decide) (by decide)) q131a q131c (g := (mkF m 22 #[vR a1, vR a2, vR a3] [(.ref b127), (.ref b102), (.ref x)])) rfl (by rw [hml]; rfl) (Steps.refl _) (argsL := [(.ref b127)]) (rest := [(.ref x)]) (lenOf pd_16 rfl) rfl (wL _) (hb hby d22_22) (fun _ _ => ⟨rfl, e127, (by decide : 6 + 0 ≤ _), (by decide : 64 + 0 ≤ _)⟩)
 dsimp only [Pt.U, Pt.locs, Pt.cells, Pt.slots] at X131 l131 y131 z131 st131 hQ131
 rw [l131] at X131
 subst y131 z131
 obtain ⟨rfl, N131q, K131, Eb131, Bv131, Bc131, Bn131, Vb131⟩ := hQ131
 have hs7_K131 : ∀ zz ∈ ([b102, v103] : List Addr), Safe Z EL1 T127.vm h127 zz := sfS (Safe.exa hZ127.alike C128 (by decide) (by decide)) (sfS Sf130 (sf0))
 have cR7_K131 := cR6_K127.trans (CHr.keep K131 hs7_K131 cR6_K127.1)
 have sz7_K131 := K131.1
 have N131 := Fr.app N117 N131q
 have KD139 : Keep T110.heap h127 [b102, v103] := ((Keep.refl _ _).trans K117 (allS (Or.inl (List.mem_of_getElem? (i := 0) rfl)) (allS (Or.inl (List.mem_of_getElem? (i := 1) rfl)) (all0)))).trans K127 (all0)
 have KD140 : Keep T110.heap T131.heap [b102, v103] := ((Keep.refl _ _).trans KD139 (allS (Or.inl (List.mem_of_getElem? (i := 0) rfl)) (allS (Or.inl (List.mem_of_getElem? (i := 1) rfl)) (all0)))).trans K131 (allS (Or.inl (List.mem_of_getElem? (i := 0) rfl)) (allS (Or.inl (List.mem_of_getElem? (i := 1) rfl)) (all0)))
 have KD141 : Keep h0 T131.heap [] := ((Keep.refl _ _).trans KD120 (all0)).trans KD140 (allS (Or.inr (by omega)) (allS (Or.inr (by omega)) (all0)))
 have C142 := Es3.keep KD141
 have C143 := Sv3.keep KD141 nin0
 have C144 := Sc3.keep KD141 nin0
 have C145 := Vs3.keep KD141 nin0
 have O146 : Old Z n0 T131.heap := O137.keep K131 (allS (by omega) (allS (by omega) (all0)))
 obtain ⟨cq138, kq138, q138a, q138b, q138c⟩ := isOf hZ127 rfl Eb131
 obtain ⟨_, _, ⟨T138, L138, k138, n138⟩, -, X138, ⟨Lc138, hQ138, l138, y138, z138⟩, st138⟩ := X131.virtualBack hx (y := mN14) (z := mN14) hown127 (mvT hZ127 (tw hw 160 rfl)) (mvT hZ127 (tw hw 161 rfl)) (notFace_of_selects (args := #[]) (mvT hZ127 (tw hw 163 rfl))) (mvT hZ127 (tw hw 163 rfl)) (mvT hZ127 (tw hw 162 rfl)) (by decide) (backOf (W := 1) (rmSa l Z a0 hw [] b102 a3 (((([] : List Int32) ++ ([101, 114, 114, 111, 114, 91] : List Int32)) ++ b2) ++ ([93, 58, 32] : List Int32)) b3 cs0 t3 v103 k3 kv103 T131.heap n0 O146 S_CS c_CS C142 C143 C144 C145 (by simp only [List.length_append, List.length_cons, List.length_nil]; omega) Eb131 Bv131 Bc131 Bn131 Vb131 (by omega : @LE.le Nat _ n0 b102) (by omega : @LE.le Nat _ n0 v103) (by omega) (by omega) (by omega) (by omega) (by omega)) hZ127 (tw hw 164 rfl) (tw hw 143 rfl) (by decide) (by decide)) q138a q138c (g := (mkF m 26 #[vR a1, vR a2, vR a3] [(.ref a3), (.ref b102), (.ref x)])) rfl (by rw [hml]; rfl) (Steps.refl _) (argsL := [(.ref a3)]) (rest := [(.ref x)]) (lenOf pd_16 rfl) rfl (wL _) (hb hby d22_26) (fun _ _ => ⟨rfl, rfl, (by decide : 6 + 0 ≤ _), (by decide : 64 + 0 ≤ _)⟩)
 dsimp only [Pt.U, Pt.locs, Pt.cells, Pt.slots] at X138 l138 y138 z138 st138 hQ138
 rw [l138] at X138
 subst y138 z138
 obtain ⟨rfl, N138q, K138, Eb138, Bv138, Bc138, Bn138, Vb138⟩ := hQ138
 have Sf147 := Safe.keep K131 hs7_K131 cR6_K127.1 Sf130
 have hs8_K138 : ∀ zz ∈ ([b102, v103] : List Addr), Safe Z EL1 T127.vm T131.heap zz := sfS (Safe.exa hZ127.alike Eb131 (by decide) (by decide)) (sfS Sf147 (sf0))
 have cR8_K138 := cR7_K131.trans (CHr.keep K138 hs8_K138 cR7_K131.1)
 have sz8_K138 := K138.1
 have N138 := Fr.app N131 N138q
 have O149 : Old Z n0 T138.heap := O146.keep K138 (allS (by omega) (allS (by omega) (all0)))
 obtain ⟨cq148, kq148, q148a, q148b, q148c⟩ := isOf hZ127 rfl Eb138
 obtain ⟨_, _, ⟨T148, L148, k148, n148⟩, -, X148, ⟨Lc148, hQ148, l148, y148, z148⟩, st148⟩ := X138.virtualBack hx (y := mN21) (z := mN21) hown127 (mvT hZ127 (tw hw 208 rfl)) (mvT hZ127 (tw hw 209 rfl)) (notFace_of_selects (args := #[]) (mvT hZ127 (tw hw 211 rfl))) (mvT hZ127 (tw hw 211 rfl)) (mvT hZ127 (tw hw 210 rfl)) (by decide) (backOf (W := 1) (rmTs l Z a0 hw [] b102 ((((([] : List Int32) ++ ([101, 114, 114, 111, 114, 91] : List Int32)) ++ b2) ++ ([93, 58, 32] : List Int32)) ++ b3) cs0 v103 kv103 T138.heap n0 O149 S_CS c_CS Eb138 Bv138 Bc138 Bn138 Vb138 (by simp only [List.length_append, List.length_cons, List.length_nil]; omega)) hZ127 (tw hw 212 rfl) (tw hw 143 rfl) (by decide) (by decide)) q148a q148c (g := (mkF m 29 #[vR a1, vR a2, vR a3] [(.ref b102), (.ref x)])) rfl (by rw [hml]; rfl) (Steps.refl _) (argsL := []) (rest := [(.ref x)]) (lenOf pd_23 rfl) rfl (wL _) (hb hby d22_29) (fun _ _ => ⟨rfl, rfl, (by decide : 6 + 2 ≤ _), (by decide : 64 + 20 ≤ _)⟩)
 dsimp only [Pt.U, Pt.locs, Pt.cells, Pt.slots] at X148 l148 y148 z148 st148 hQ148
 rw [l148] at X148
 subst y148 z148
 obtain ⟨x148, t148, kb148, rfl, N148q, K148, gx148, gt148, tx148, Es148, Sv148, Sc148, Vs148⟩ := hQ148
 have ltx148 : @LT.lt Nat _ x148 T148.heap.size := Es148.lt
 have ltt148 : @LT.lt Nat _ t148 T148.heap.size := Vs148.lt
 have cR9_K148 := cR8_K138.trans (CHr.keep K148 sf0 cR8_K138.1)
 have sz9_K148 := K148.1
 have N148 := Fr.app N138 N148q
 have KD151 : Keep T131.heap T148.heap [b102, v103] := ((Keep.refl _ _).trans K138 (allS (Or.inl (List.mem_of_getElem? (i := 0) rfl)) (allS (Or.inl (List.mem_of_getElem? (i := 1) rfl)) (all0)))).trans K148 (all0)
 have KD152 : Keep h0 T148.heap [] := ((Keep.refl _ _).trans KD141 (all0)).trans KD151 (allS (Or.inr (by omega)) (allS (Or.inr (by omega)) (all0)))
 have C153 := El.keep KD152
 have C154 := Ld.keep KD152 nin0
 have C155 := Ln.keep KD152 nin0
 have C156 := Lm.keep KD152 nin0
 have O157 : Old Z n0 T148.heap := O149.keep K148 all0
 obtain ⟨cq150, kq150, q150a, q150b, q150c⟩ := isOf hZ127 rfl C153
 obtain ⟨_, _, ⟨T150, L150, k150, n150⟩, -, X150, ⟨Lc150, hQ150, l150, y150, z150⟩, st150⟩ := X148.interfaceBack hx (xi := mN42) (y := mN40) hown127 (mvT hZ127 (tw hw 253 rfl)) (mvT hZ127 (tw hw 254 rfl)) (mvT hZ127 (tw hw 255 rfl)) (mvT hZ127 (tw hw 256 rfl)) (mvT hZ127 (tw hw 257 rfl)) (mvT hZ127 (tw hw 258 rfl)) (mvT hZ127 (tw hw 259 rfl)) (mvT hZ127 (tw hw 92 rfl)) (by decide) (backOf (W := 0) (rmAd0 l Z a0 hw [] x x148 dd kD T148.heap n0 O157 S_DC V_DC (by omega : @LE.le Nat _ n0 x) C153 C154 C155 C156 Es148) hZ127 (tw hw 260 rfl) (tw hw 56 rfl) (by decide) (by decide)) q150a q150b q150c (g := (mkF m 32 #[vR a1, vR a2, vR a3] [(.ref x148), (.ref x)])) rfl (by rw [hml]; rfl) (Steps.refl _) (argsL := [(.ref x148)]) (rest := []) (lenOf pd_30 rfl) rfl (wL _) (hb hby d22_32) (fun _ _ => ⟨rfl, rfl, (by decide : 8 + 1 ≤ _), (by decide : 84 + 10 ≤ _)⟩)
 dsimp only [Pt.U, Pt.locs, Pt.cells, Pt.slots] at X150 l150 y150 z150 st150 hQ150
 rw [l150] at X150
 subst y150 z150
 obtain ⟨d150, kd150, rfl, N150q, K150, gd150, El150, Ld150, Ln150, Lm150, Ea150, Va150, Oa150⟩ := hQ150
 have ltd150 : @LT.lt Nat _ d150 T150.heap.size := Va150.lt
 have hs10_K150 : ∀ zz ∈ ([x] : List Addr), Safe Z EL1 T127.vm T148.heap zz := sfS (Safe.exa hZ127.alike C153 (by decide) (by decide)) (sf0)
 have cR10_K150 := cR9_K148.trans (CHr.keep K150 hs10_K150 cR9_K148.1)
 have sz10_K150 := K150.1
 have N150 := Fr.app N148 N150q
 have KC158 : Keep h0 h102 [x] := (Keep.refl h0 [x]).trans K102 (all0)
 have KC159 : Keep h0 T103.heap [x] := KC158.trans K103 (allS (Or.inr (by omega)) (all0))
 have KC160 : Keep h0 h105 [x] := KC159.trans K105 (all0)
 have KC161 : Keep h0 T110.heap [x] := KC160.trans K110 (allS (Or.inr (by omega)) (allS (Or.inr (by omega)) (all0)))
 have KC162 : Keep h0 T117.heap [x] := KC161.trans K117 (allS (Or.inr (by omega)) (allS (Or.inr (by omega)) (all0)))
 have KC163 : Keep h0 h127 [x] := KC162.trans K127 (all0)
 have KC164 : Keep h0 T131.heap [x] := KC163.trans K131 (allS (Or.inr (by omega)) (allS (Or.inr (by omega)) (all0)))
 have KC165 : Keep h0 T138.heap [x] := KC164.trans K138 (allS (Or.inr (by omega)) (allS (Or.inr (by omega)) (all0)))
 have KC166 : Keep h0 T148.heap [x] := KC165.trans K148 (all0)
 have KC167 : Keep h0 T150.heap [x] := KC166.trans K150 (allS (Or.inl (List.mem_of_getElem? (i := 0) rfl)) (all0))
 have C168 := Es148.keep K150
 have C169 := Sv148.keep K150 (ninS (by omega : @Ne Nat x148 x) (nin0))
 have C170 := Sc148.keep K150 (ninS (by omega : @Ne Nat x148 x) (nin0))
 have C171 := Vs148.keep K150 (ninS (by omega : @Ne Nat t148 x) (nin0))
 obtain ⟨fs, hr, hrun, hended, eR, eW, eI, eS⟩ := Stand.leaveW (s := s) (vm₁ := T127.vm) X150 hS127 (by omega) (v := none) (fun _ => rfl)
 refine ⟨_, _, pre0 _ ?_, hrun, hended, _, _, rfl, ?_, ?_, eR, eW, eI, eS.mono (by decide) (by decide)⟩
 ·skip
  show SS p e below s₁ m 0 #[vR a1, vR a2, vR a3] [] _
  refine XS.aloadN X0.here hx rfl (hb hby d22_0) rfl rfl ?_
  show SS p e below s₁ m 1 #[vR a1, vR a2, vR a3] [(.ref a1)] _
  refine st101 _ ?_
  show SS p e below T101 m 4 #[vR a1, vR a2, vR a3] [(.ref x)] _
  refine st102 _ ?_
  refine XS.dup X102.here hx rfl (hb hby d22_7) rfl rfl ?_
  show SS p e below T102 m 8 #[vR a1, vR a2, vR a3] [(.ref b102), (.ref b102), (.ref x)] _
  refine st103.trans ?_
  show SS p e below T103 m 11 #[vR a1, vR a2, vR a3] [(.ref b102), (.ref x)] _
  refine st105 _ ?_
  show SS p e below T105 m 13 #[vR a1, vR a2, vR a3] [(.ref b105), (.ref b102), (.ref x)] _
  refine st110.trans ?_
  refine XS.aloadN X110.here hx rfl (hb hby d22_16) rfl rfl ?_
  show SS p e below T110 m 17 #[vR a1, vR a2, vR a3] [(.ref a2), (.ref b102), (.ref x)] _
  refine st117.trans ?_
  show SS p e below T117 m 20 #[vR a1, vR a2, vR a3] [(.ref b102), (.ref x)] _
  refine st127 _ ?_
  show SS p e below T127 m 22 #[vR a1, vR a2, vR a3] [(.ref b127), (.ref b102), (.ref x)] _
  refine st131.trans ?_
  refine XS.aloadN X131.here hx rfl (hb hby d22_25) rfl rfl ?_
  show SS p e below T131 m 26 #[vR a1, vR a2, vR a3] [(.ref a3), (.ref b102), (.ref x)] _
  refine st138.trans ?_
  show SS p e below T138 m 29 #[vR a1, vR a2, vR a3] [(.ref b102), (.ref x)] _
  refine st148.trans ?_
  show SS p e below T148 m 32 #[vR a1, vR a2, vR a3] [(.ref x148), (.ref x)] _
  refine st150.trans ?_
  refine XS.pop X150.here hx rfl (hb hby d22_37) rfl rfl ?_
  show SS p e below T150 m 38 #[vR a1, vR a2, vR a3] [] _
  exact X150.returnOut hx Bd.returns (hb hby d22_38) hr
 ·show Q_rmMadd0 Z a1 a2 a3 cs0 b2 b3 t2 t3 k2 k3 x dd kD h0 n0 _ T150.heap _
  exact ⟨_, _, _, _, _, rfl, N150, KC167, (by omega), (by omega), (by omega), (by omega), (by omega), (by omega), C168, C169, C170, C171, El150, Ld150, Ln150, Lm150, Ea150, Va150, Oa150⟩
 ·show CHr Z EL1 s.vm s.heap T150.vm T150.heap
  rw [hh]
  exact cR10_K150.trans (CHv.at (s := s) (vm0 := T127.vm) X150 hZ127 hEW cR10_K150.1)
theorem ef_rmMadd1 (m : MethodId) (y0 : Addr) (y1 : Addr) (y2 : Addr) : entryFrame m #[(.ref y0), (.ref y1), (.ref y2)] 3 = (mkF m 0 #[vR y0, vR y1, vR y2] []) := by first | (simp [entryFrame, mkF, argsToLocals, Value.category]; done) | rfl
def Q_rmMadd1 (Z : State) (a1 : Addr) (a2 : Addr) (a3 : Addr) (cs0 : Int32) (b2 b3 : List Int32) (t2 t3 : Addr) (k2 k3 : ClassId) (x : Addr) (d f0 : Addr) (kd : ClassId) (h0 : Heap) (n0 : Nat) (v : Option Value) (h : Heap) (L : List Loc) : Prop := ∃ (y t : Addr) (kb : ClassId), v = none ∧ Fr n0 L ∧ Keep h0 h [x, d] ∧ h0.size ≤ y ∧ h0.size ≤ t ∧ @Ne Nat t y ∧ Exa Z h y "java/lang/String" ∧ Fld Z h y "java/lang/String" "value" "[B" (.ref t) ∧ Fld Z h y "java/lang/String" "coder" "B" (.int 0) ∧ Arv Z h t kb .byte (Int32.ofNat ((((([] : List Int32) ++ ([101, 114, 114, 111, 114, 91] : List Int32)) ++ b2) ++ ([93, 58, 32] : List Int32)) ++ b3).length) (((((([] : List Int32) ++ ([101, 114, 114, 111, 114, 91] : List Int32)) ++ b2) ++ ([93, 58, 32] : List Int32)) ++ b3).map Value.int) (.int 0) ∧ Exa Z h x "java/util/ArrayList" ∧ Fld Z h x "java/util/ArrayList" "elementData" "[Ljava/lang/Object;" (.ref d) ∧ Fld Z h x "java/util/ArrayList" "size" "I" (.int 2) ∧ Fld Z h x "java/util/AbstractList" "modCount" "I" (.int 2) ∧ Exa Z h d "[Ljava/lang/Object;" ∧ Arv Z h d kd (.object "java/lang/Object") (10 : Int32) [(.ref f0), (.ref y), .null, .null, .null, .null, .null, .null, .null, .null] .null ∧ Ovr Z kd "java/lang/Object"
theorem rmMadd1 (l : Launch) (Z : State) (a0 : Array Value) (hw : HW a0 Z) (ws : List Jvm.Cond) (a1 : Addr) (a2 : Addr) (a3 : Addr) (cs0 : Int32) (b2 b3 : List Int32) (t2 t3 : Addr) (k2 k3 : ClassId) (x : Addr) (d f0 : Addr) (kd : ClassId) (h0 : Heap) (n0 : Nat) (O0 : Old Z n0 h0) (S_CS : SCS Z cs0) (c_CS : ¬ (cs0 = (0 : Int32))) (gx : n0 ≤ x) (hbb : b2.length + b3.length ≤ 6) (gd : n0 ≤ d) (ne : @Ne Nat x d) (Em : Exa Z h0 a1 "com/example/nroute/nroute/route/Mistakes") (Ml : Fld Z h0 a1 "com/example/nroute/nroute/route/Mistakes" "lines" "Ljava/util/List;" (.ref x)) (El : Exa Z h0 x "java/util/ArrayList") (Ld : Fld Z h0 x "java/util/ArrayList" "elementData" "[Ljava/lang/Object;" (.ref d)) (Ln : Fld Z h0 x "java/util/ArrayList" "size" "I" (.int 1)) (Lm : Fld Z h0 x "java/util/AbstractList" "modCount" "I" (.int 1)) (Ea : Exa Z h0 d "[Ljava/lang/Object;") (Va : Arv Z h0 d kd (.object "java/lang/Object") (10 : Int32) [(.ref f0), .null, .null, .null, .null, .null, .null, .null, .null, .null] .null) (Oa : Ovr Z kd "java/lang/Object") (Es2 : Exa Z h0 a2 "java/lang/String") (Sv2 : Fld Z h0 a2 "java/lang/String" "value" "[B" (.ref t2)) (Sc2 : Fld Z h0 a2 "java/lang/String" "coder" "B" (.int 0)) (Vs2 : Arv Z h0 t2 k2 .byte (Int32.ofNat b2.length) (b2.map Value.int) (.int 0)) (Es3 : Exa Z h0 a3 "java/lang/String") (Sv3 : Fld Z h0 a3 "java/lang/String" "value" "[B" (.ref t3)) (Sc3 : Fld Z h0 a3 "java/lang/String" "coder" "B" (.int 0)) (Vs3 : Arv Z h0 t3 k3 .byte (Int32.ofNat b3.length) (b3.map Value.int) (.int 0)) :
  MetFree l mN41 (head1 (Jvm.Cond.code mN41 prog_26_method_2_code 3 none :: ws) (Rm 6 9 94 170)) (fun a U => a = #[(.ref a1), (.ref a2), (.ref a3)] ∧ Z.Warmed39 U.vm ∧ U.heap = h0 ∧ CHv Z EL1 U.vm h0) (fun _ _ _ _ _ => True) (fun _ U o U' => ∃ v L, o = .returned v ∧ Q_rmMadd1 Z a1 a2 a3 cs0 b2 b3 t2 t3 k2 k3 x d f0 kd h0 n0 v U'.heap L ∧ CHr Z EL1 U.vm U.heap U'.vm U'.heap ∧ ReturnedEndW U o U' L (Rm 6 9 94 170).cells (Rm 6 9 94 170).slots) := by
 refine MetFree.of_bodySF (plainFor_of_name pn_11) hisR ?_
 intro p e s m args below meth c s₁ Bd hml0 hP hK
 obtain ⟨rfl, hZ, hh, hCH⟩ := hP
 have hx := Bd.exec
 have hby := Bd.bytes
 have hml : c.maxLocals = 3 := hml0
 have hown : s.vm.findClass "com/example/nroute/nroute/route/Mistakes" = some m.cls := findClass_of_methodNamed Bd.named
 have X0 : Stand p l e (Rm 6 9 94 170) s m #[(.ref a1), (.ref a2), (.ref a3)] below meth c s₁ [] 0 0 := Stand.of_body Bd
 have e0 : s₁.heap = h0 := by rw [← hh, Bd.state]; rfl
 have N0 := Fr.nil n0
 have hn0 : n0 ≤ h0.size := O0.1 ▸ O0.2.1
 have CR0 := CHr.refl hCH
 have hS0 : s.Since s.vm h0.size := (State.WarmedH.refl s).since _
 have pre0 : ∀ t, SS p e below s₁ m 0 #[vR a1, vR a2, vR a3] [] t → SE p e below s₁ m #[(.ref a1), (.ref a2), (.ref a3)] 3 t := fun t k => castTop (ef_rmMadd1 m a1 a2 a3) k
 have wStr : ∀ d ∈ Bundle.stringAtoms, d.before a0 Z = true := fun d hd => hw d ((by decide +kernel : ∀ d ∈ Bundle.stringAtoms, d ∈ tables_1) d hd)
 have hEW : EW Z a0 EL1 := EW.cons (tw hw 159 rfl) (by decide) (EW.cons (tw hw 207 rfl) (by decide) (EW.cons (tw hw 44 rfl) (by decide) EW.nil))
 have lt_x : @LT.lt Nat _ x h0.size := El.lt
 have lt_a1 : @LT.lt Nat _ a1 h0.size := Em.lt
 have lt_a2 : @LT.lt Nat _ a2 h0.size := Es2.lt
 have lt_a3 : @LT.lt Nat _ a3 h0.size := Es3.lt
 have lt_t2 : @LT.lt Nat _ t2 h0.size := Vs2.lt
 have lt_t3 : @LT.lt Nat _ t3 h0.size := Vs3.lt
 have lt_d : @LT.lt Nat _ d h0.size := Va.lt
 obtain ⟨T101, X101, e101, st101⟩ := getF X0 hx hZ hown (host := "") (Or.inl (tw hw 78 rfl)) Via.refl e0 Ml (g := (mkF m 1 #[vR a1, vR a2, vR a3] [(.ref a1)])) rfl rfl (hb hby d22_1)
 obtain ⟨T102, h102, X102, e102, E102, A102, D102, -, st102⟩ := newO X101 hx hZ hown (tw hw 141 rfl) (tw hw 142 rfl) (tw hw 143 rfl) e101 (g := (mkF m 4 #[vR a1, vR a2, vR a3] [(.ref x)])) rfl (hb hby d22_4) (by decide) (by decide)
 obtain ⟨b102, g102⟩ : ∃ z, z = h0.size := ⟨_, rfl⟩
 rw [← g102] at A102 D102 st102
 have lt102 : @LT.lt Nat _ b102 h102.size := A102.lt
 have K102 : Keep h0 h102 [] := (Keep.refl _ _).ext E102
 have cR1_K102 := CR0.trans (CHr.keep K102 sf0 CR0.1)
 have sz1_K102 := K102.1
 have F102_value : Fld Z h102 b102 "java/lang/AbstractStringBuilder" "value" "[B" .null := D102 (Or.inl (tw hw 156 rfl)) (ty := (.array .byte)) (by decide)
 have F102_coder : Fld Z h102 b102 "java/lang/AbstractStringBuilder" "coder" "B" (.int 0) := D102 (Or.inl (tw hw 158 rfl)) (ty := .byte) (by decide)
 have F102_count : Fld Z h102 b102 "java/lang/AbstractStringBuilder" "count" "I" (.int 0) := D102 (Or.inl (tw hw 181 rfl)) (ty := .int) (by decide)
 have O104 : Old Z n0 h102 := O0.keep K102 all0
 obtain ⟨_, _, ⟨T103, L103, k103, n103⟩, -, X103, ⟨Lc103, hQ103, l103, y103, z103⟩, st103⟩ := X102.specialBack hx (y := mN8) rfl hown (mvT hZ (tw hw 144 rfl)) (mvT hZ (tw hw 145 rfl)) (mvT hZ (tw hw 146 rfl)) (by decide) (backOf (W := 2) (rmSi l Z a0 hw [] b102 cs0 h102 n0 O104 S_CS c_CS (by omega : @LE.le Nat _ n0 b102) A102 F102_value F102_coder F102_count) hZ (tw hw 146 rfl) (tw hw 143 rfl) (by decide) (by decide)) (g := (mkF m 8 #[vR a1, vR a2, vR a3] [(.ref b102), (.ref b102), (.ref x)])) rfl (by rw [hml]; rfl) (Steps.refl _) (a := b102) (argsL := []) (rest := [(.ref b102), (.ref x)]) (lenOf pd_2 rfl) rfl (wL _) (hb hby d22_8) (fun _ _ => ⟨rfl, e102, (by decide : 1 + 1 ≤ _), (by decide : 4 + 16 ≤ _)⟩)
 dsimp only [Pt.U, Pt.locs, Pt.cells, Pt.slots] at X103 l103 y103 z103 st103 hQ103
 rw [l103] at X103
 subst y103 z103
 obtain ⟨v103, kv103, rfl, N103q, K103, gv103, Eb103, Bv103, Bc103, Bn103, Vb103⟩ := hQ103
 have ltv103 : @LT.lt Nat _ v103 T103.heap.size := Vb103.lt
 have hs2_K103 : ∀ zz ∈ ([b102] : List Addr), Safe Z EL1 s.vm h102 zz := sfS (Safe.exa hZ.alike A102 (by decide) (by decide)) (sf0)
 have cR2_K103 := cR1_K102.trans (CHr.keep K103 hs2_K103 cR1_K102.1)
 have sz2_K103 := K103.1
 have N103 := Fr.app N0 N103q
 obtain ⟨b105, T105, h105, k105, t105, kb105, X105, e105, E105, hS105, hk105, hZ105, hown105, Ea105, Fc105, Fv105, Av105, la105, lb105, CR105, Li105, nq105, st105⟩ := ldcCH (s := s) (vm0 := s.vm) X103 hx hZ hown (tw hw 159 rfl) wStr rfl hS0 (by omega) hEW (by simp [EL1]) cR2_K103.1 (vs := (([101, 114, 114, 111, 114, 91] : List Int32).map Value.int)) (z := (Int32.ofNat ([101, 114, 114, 111, 114, 91] : List Int32).length)) ⟨by decide, by decide⟩ (by decide) (by decide) (g := (mkF m 11 #[vR a1, vR a2, vR a3] [(.ref b102), (.ref x)])) rfl (hb hby d22_11) (n := 24) (by decide) (by decide) (by decide) (by decide)
 have lta105 : @LT.lt Nat _ b105 h105.size := la105
 have ltb105 : @LT.lt Nat _ t105 h105.size := lb105
 have K105 : Keep T103.heap h105 [] := (Keep.refl _ _).ext E105
 have cR3_K105 := cR2_K103.trans CR105
 have sz3_K105 := K105.1
 have C106 := Eb103.keep K105
 have nu105_b102 := nq105 b102 (Safe.exa hZ105.alike C106 (by decide) (by decide))
 have nx105_b102 : @Ne Nat b102 b105 := nu105_b102.1
 have ny105_b102 : @Ne Nat b102 t105 := nu105_b102.2
 have Sf107 : Safe Z EL1 s.vm h102 v103 := Safe.new (by omega)
 have Sf108 := Safe.keep K103 hs2_K103 cR1_K102.1 Sf107
 have Sf109 := CHr.safe CR105 (show @LT.lt Nat _ v103 T103.heap.size by omega) Sf108
 have nu105_v103 := nq105 v103 Sf109
 have nx105_v103 : @Ne Nat v103 b105 := nu105_v103.1
 have ny105_v103 : @Ne Nat v103 t105 := nu105_v103.2
 have C111 := Bv103.keep K105 nin0
 have C112 := Bc103.keep K105 nin0
 have C113 := Bn103.keep K105 nin0
 have C114 := Vb103.keep K105 nin0
 have O115 : Old Z n0 T103.heap := O104.keep K103 (allS (by omega) (all0))
 have O116 : Old Z n0 h105 := O115.keep K105 all0
 obtain ⟨cq110, kq110, q110a, q110b, q110c⟩ := isOf hZ105 e105 C106
 obtain ⟨_, _, ⟨T110, L110, k110, n110⟩, -, X110, ⟨Lc110, hQ110, l110, y110, z110⟩, st110⟩ := X105.virtualBack hx (y := mN14) (z := mN14) hown105 (mvT hZ105 (tw hw 160 rfl)) (mvT hZ105 (tw hw 161 rfl)) (notFace_of_selects (args := #[]) (mvT hZ105 (tw hw 163 rfl))) (mvT hZ105 (tw hw 163 rfl)) (mvT hZ105 (tw hw 162 rfl)) (by decide) (backOf (W := 1) (rmSa l Z a0 hw [] b102 b105 ([] : List Int32) ([101, 114, 114, 111, 114, 91] : List Int32) cs0 t105 v103 kb105 kv103 h105 n0 O116 S_CS c_CS Ea105 Fv105 Fc105 Av105 (by simp only [List.length_append, List.length_cons, List.length_nil]; omega) C106 C111 C112 C113 C114 (by omega : @LE.le Nat _ n0 b102) (by omega : @LE.le Nat _ n0 v103) (by omega) (by omega) (by omega) (by omega) (by omega)) hZ105 (tw hw 164 rfl) (tw hw 143 rfl) (by decide) (by decide)) q110a q110c (g := (mkF m 13 #[vR a1, vR a2, vR a3] [(.ref b105), (.ref b102), (.ref x)])) rfl (by rw [hml]; rfl) (Steps.refl _) (argsL := [(.ref b105)]) (rest := [(.ref x)]) (lenOf pd_16 rfl) rfl (wL _) (hb hby d22_13) (fun _ _ => ⟨rfl, e105, (by decide : 4 + 0 ≤ _), (by decide : 48 + 0 ≤ _)⟩)
 dsimp only [Pt.U, Pt.locs, Pt.cells, Pt.slots] at X110 l110 y110 z110 st110 hQ110
 rw [l110] at X110
 subst y110 z110
 obtain ⟨rfl, N110q, K110, Eb110, Bv110, Bc110, Bn110, Vb110⟩ := hQ110
 have hs4_K110 : ∀ zz ∈ ([b102, v103] : List Addr), Safe Z EL1 T105.vm h105 zz := sfS (Safe.exa hZ105.alike C106 (by decide) (by decide)) (sfS Sf109 (sf0))
 have cR4_K110 := cR3_K105.trans (CHr.keep K110 hs4_K110 cR3_K105.1)
 have sz4_K110 := K110.1
 have N110 := Fr.app N103 N110q
 have KD118 : Keep h0 T103.heap [] := ((Keep.refl _ _).trans K102 (all0)).trans K103 (allS (Or.inr (by omega)) (all0))
 have KD119 : Keep h0 h105 [] := ((Keep.refl _ _).trans KD118 (all0)).trans K105 (all0)
 have KD120 : Keep h0 T110.heap [] := ((Keep.refl _ _).trans KD119 (all0)).trans K110 (allS (Or.inr (by omega)) (allS (Or.inr (by omega)) (all0)))
 have C121 := Es2.keep KD120
 have C122 := Sv2.keep KD120 nin0
 have C123 := Sc2.keep KD120 nin0
 have C124 := Vs2.keep KD120 nin0
 have O125 : Old Z n0 T110.heap := O116.keep K110 (allS (by omega) (allS (by omega) (all0)))
 obtain ⟨cq117, kq117, q117a, q117b, q117c⟩ := isOf hZ105 rfl Eb110
 obtain ⟨_, _, ⟨T117, L117, k117, n117⟩, -, X117, ⟨Lc117, hQ117, l117, y117, z117⟩, st117⟩ := X110.virtualBack hx (y := mN14) (z := mN14) hown105 (mvT hZ105 (tw hw 160 rfl)) (mvT hZ105 (tw hw 161 rfl)) (notFace_of_selects (args := #[]) (mvT hZ105 (tw hw 163 rfl))) (mvT hZ105 (tw hw 163 rfl)) (mvT hZ105 (tw hw 162 rfl)) (by decide) (backOf (W := 1) (rmSa l Z a0 hw [] b102 a2 (([] : List Int32) ++ ([101, 114, 114, 111, 114, 91] : List Int32)) b2 cs0 t2 v103 k2 kv103 T110.heap n0 O125 S_CS c_CS C121 C122 C123 C124 (by simp only [List.length_append, List.length_cons, List.length_nil]; omega) Eb110 Bv110 Bc110 Bn110 Vb110 (by omega : @LE.le Nat _ n0 b102) (by omega : @LE.le Nat _ n0 v103) (by omega) (by omega) (by omega) (by omega) (by omega)) hZ105 (tw hw 164 rfl) (tw hw 143 rfl) (by decide) (by decide)) q117a q117c (g := (mkF m 17 #[vR a1, vR a2, vR a3] [(.ref a2), (.ref b102), (.ref x)])) rfl (by rw [hml]; rfl) (Steps.refl _) (argsL := [(.ref a2)]) (rest := [(.ref x)]) (lenOf pd_16 rfl) rfl (wL _) (hb hby d22_17) (fun _ _ => ⟨rfl, rfl, (by decide : 4 + 0 ≤ _), (by decide : 48 + 0 ≤ _)⟩)
 dsimp only [Pt.U, Pt.locs, Pt.cells, Pt.slots] at X117 l117 y117 z117 st117 hQ117
 rw [l117] at X117
 subst y117 z117
 obtain ⟨rfl, N117q, K117, Eb117, Bv117, Bc117, Bn117, Vb117⟩ := hQ117
 have Sf126 := Safe.keep K110 hs4_K110 cR3_K105.1 Sf109
 have hs5_K117 : ∀ zz ∈ ([b102, v103] : List Addr), Safe Z EL1 T105.vm T110.heap zz := sfS (Safe.exa hZ105.alike Eb110 (by decide) (by decide)) (sfS Sf126 (sf0))
 have cR5_K117 := cR4_K110.trans (CHr.keep K117 hs5_K117 cR4_K110.1)
 have sz5_K117 := K117.1
 have N117 := Fr.app N110 N117q
 obtain ⟨b127, T127, h127, k127, t127, kb127, X127, e127, E127, hS127, hk127, hZ127, hown127, Ea127, Fc127, Fv127, Av127, la127, lb127, CR127, Li127, nq127, st127⟩ := ldcCH (s := s) (vm0 := T105.vm) X117 hx hZ105 hown105 (tw hw 207 rfl) wStr rfl hS105 (by omega) hEW (by simp [EL1]) cR5_K117.1 (vs := (([93, 58, 32] : List Int32).map Value.int)) (z := (Int32.ofNat ([93, 58, 32] : List Int32).length)) ⟨by decide, by decide⟩ (by decide) (by decide) (g := (mkF m 20 #[vR a1, vR a2, vR a3] [(.ref b102), (.ref x)])) rfl (hb hby d22_20) (n := 12) (by decide) (by decide) (by decide) (by decide)
 have lta127 : @LT.lt Nat _ b127 h127.size := la127
 have ltb127 : @LT.lt Nat _ t127 h127.size := lb127
 have K127 : Keep T117.heap h127 [] := (Keep.refl _ _).ext E127
 have cR6_K127 := cR5_K117.trans CR127
 have sz6_K127 := K127.1
 have C128 := Eb117.keep K127
 have nu127_b102 := nq127 b102 (Safe.exa hZ127.alike C128 (by decide) (by decide))
 have nx127_b102 : @Ne Nat b102 b127 := nu127_b102.1
 have ny127_b102 : @Ne Nat b102 t127 := nu127_b102.2
 have Sf129 := Safe.keep K117 hs5_K117 cR4_K110.1 Sf126
 have Sf130 := CHr.safe CR127 (show @LT.lt Nat _ v103 T117.heap.size by omega) Sf129
 have nu127_v103 := nq127 v103 Sf130
 have nx127_v103 : @Ne Nat v103 b127 := nu127_v103.1
 have ny127_v103 : @Ne Nat v103 t127 := nu127_v103.2
 have C132 := Bv117.keep K127 nin0
 have C133 := Bc117.keep K127 nin0
 have C134 := Bn117.keep K127 nin0
 have C135 := Vb117.keep K127 nin0
 have O136 : Old Z n0 T117.heap := O125.keep K117 (allS (by omega) (allS (by omega) (all0)))
 have O137 : Old Z n0 h127 := O136.keep K127 all0
 obtain ⟨cq131, kq131, q131a, q131b, q131c⟩ := isOf hZ127 e127 C128
 obtain ⟨_, _, ⟨T131, L131, k131, n131⟩, -, X131, ⟨Lc131, hQ131, l131, y131, z131⟩, st131⟩ := X127.virtualBack hx (y := mN14) (z := mN14) hown127 (mvT hZ127 (tw hw 160 rfl)) (mvT hZ127 (tw hw 161 rfl)) (notFace_of_selects (args := #[]) (mvT hZ127 (tw hw 163 rfl))) (mvT hZ127 (tw hw 163 rfl)) (mvT hZ127 (tw hw 162 rfl)) (by decide) (backOf (W := 1) (rmSa l Z a0 hw [] b102 b127 ((([] : List Int32) ++ ([101, 114, 114, 111, 114, 91] : List Int32)) ++ b2) ([93, 58, 32] : List Int32) cs0 t127 v103 kb127 kv103 h127 n0 O137 S_CS c_CS Ea127 Fv127 Fc127 Av127 (by simp only [List.length_append, List.length_cons, List.length_nil]; omega) C128 C132 C133 C134 C135 (by omega : @LE.le Nat _ n0 b102) (by omega : @LE.le Nat _ n0 v103) (by omega) (by omega) (by omega) (by omega) (by omega)) hZ127 (tw hw 164 rfl) (tw hw 143 rfl) (by decide) (by decide)) q131a q131c (g := (mkF m 22 #[vR a1, vR a2, vR a3] [(.ref b127), (.ref b102), (.ref x)])) rfl (by rw [hml]; rfl) (Steps.refl _) (argsL := [(.ref b127)]) (rest := [(.ref x)]) (lenOf pd_16 rfl) rfl (wL _) (hb hby d22_22) (fun _ _ => ⟨rfl, e127, (by decide : 6 + 0 ≤ _), (by decide : 64 + 0 ≤ _)⟩)
 dsimp only [Pt.U, Pt.locs, Pt.cells, Pt.slots] at X131 l131 y131 z131 st131 hQ131
 rw [l131] at X131
 subst y131 z131
 obtain ⟨rfl, N131q, K131, Eb131, Bv131, Bc131, Bn131, Vb131⟩ := hQ131
 have hs7_K131 : ∀ zz ∈ ([b102, v103] : List Addr), Safe Z EL1 T127.vm h127 zz := sfS (Safe.exa hZ127.alike C128 (by decide) (by decide)) (sfS Sf130 (sf0))
 have cR7_K131 := cR6_K127.trans (CHr.keep K131 hs7_K131 cR6_K127.1)
 have sz7_K131 := K131.1
 have N131 := Fr.app N117 N131q
 have KD139 : Keep T110.heap h127 [b102, v103] := ((Keep.refl _ _).trans K117 (allS (Or.inl (List.mem_of_getElem? (i := 0) rfl)) (allS (Or.inl (List.mem_of_getElem? (i := 1) rfl)) (all0)))).trans K127 (all0)
 have KD140 : Keep T110.heap T131.heap [b102, v103] := ((Keep.refl _ _).trans KD139 (allS (Or.inl (List.mem_of_getElem? (i := 0) rfl)) (allS (Or.inl (List.mem_of_getElem? (i := 1) rfl)) (all0)))).trans K131 (allS (Or.inl (List.mem_of_getElem? (i := 0) rfl)) (allS (Or.inl (List.mem_of_getElem? (i := 1) rfl)) (all0)))
 have KD141 : Keep h0 T131.heap [] := ((Keep.refl _ _).trans KD120 (all0)).trans KD140 (allS (Or.inr (by omega)) (allS (Or.inr (by omega)) (all0)))
 have C142 := Es3.keep KD141
 have C143 := Sv3.keep KD141 nin0
 have C144 := Sc3.keep KD141 nin0
 have C145 := Vs3.keep KD141 nin0
 have O146 : Old Z n0 T131.heap := O137.keep K131 (allS (by omega) (allS (by omega) (all0)))
 obtain ⟨cq138, kq138, q138a, q138b, q138c⟩ := isOf hZ127 rfl Eb131
 obtain ⟨_, _, ⟨T138, L138, k138, n138⟩, -, X138, ⟨Lc138, hQ138, l138, y138, z138⟩, st138⟩ := X131.virtualBack hx (y := mN14) (z := mN14) hown127 (mvT hZ127 (tw hw 160 rfl)) (mvT hZ127 (tw hw 161 rfl)) (notFace_of_selects (args := #[]) (mvT hZ127 (tw hw 163 rfl))) (mvT hZ127 (tw hw 163 rfl)) (mvT hZ127 (tw hw 162 rfl)) (by decide) (backOf (W := 1) (rmSa l Z a0 hw [] b102 a3 (((([] : List Int32) ++ ([101, 114, 114, 111, 114, 91] : List Int32)) ++ b2) ++ ([93, 58, 32] : List Int32)) b3 cs0 t3 v103 k3 kv103 T131.heap n0 O146 S_CS c_CS C142 C143 C144 C145 (by simp only [List.length_append, List.length_cons, List.length_nil]; omega) Eb131 Bv131 Bc131 Bn131 Vb131 (by omega : @LE.le Nat _ n0 b102) (by omega : @LE.le Nat _ n0 v103) (by omega) (by omega) (by omega) (by omega) (by omega)) hZ127 (tw hw 164 rfl) (tw hw 143 rfl) (by decide) (by decide)) q138a q138c (g := (mkF m 26 #[vR a1, vR a2, vR a3] [(.ref a3), (.ref b102), (.ref x)])) rfl (by rw [hml]; rfl) (Steps.refl _) (argsL := [(.ref a3)]) (rest := [(.ref x)]) (lenOf pd_16 rfl) rfl (wL _) (hb hby d22_26) (fun _ _ => ⟨rfl, rfl, (by decide : 6 + 0 ≤ _), (by decide : 64 + 0 ≤ _)⟩)
 dsimp only [Pt.U, Pt.locs, Pt.cells, Pt.slots] at X138 l138 y138 z138 st138 hQ138
 rw [l138] at X138
 subst y138 z138
 obtain ⟨rfl, N138q, K138, Eb138, Bv138, Bc138, Bn138, Vb138⟩ := hQ138
 have Sf147 := Safe.keep K131 hs7_K131 cR6_K127.1 Sf130
 have hs8_K138 : ∀ zz ∈ ([b102, v103] : List Addr), Safe Z EL1 T127.vm T131.heap zz := sfS (Safe.exa hZ127.alike Eb131 (by decide) (by decide)) (sfS Sf147 (sf0))
 have cR8_K138 := cR7_K131.trans (CHr.keep K138 hs8_K138 cR7_K131.1)
 have sz8_K138 := K138.1
 have N138 := Fr.app N131 N138q
 have O149 : Old Z n0 T138.heap := O146.keep K138 (allS (by omega) (allS (by omega) (all0)))
 obtain ⟨cq148, kq148, q148a, q148b, q148c⟩ := isOf hZ127 rfl Eb138
 obtain ⟨_, _, ⟨T148, L148, k148, n148⟩, -, X148, ⟨Lc148, hQ148, l148, y148, z148⟩, st148⟩ := X138.virtualBack hx (y := mN21) (z := mN21) hown127 (mvT hZ127 (tw hw 208 rfl)) (mvT hZ127 (tw hw 209 rfl)) (notFace_of_selects (args := #[]) (mvT hZ127 (tw hw 211 rfl))) (mvT hZ127 (tw hw 211 rfl)) (mvT hZ127 (tw hw 210 rfl)) (by decide) (backOf (W := 1) (rmTs l Z a0 hw [] b102 ((((([] : List Int32) ++ ([101, 114, 114, 111, 114, 91] : List Int32)) ++ b2) ++ ([93, 58, 32] : List Int32)) ++ b3) cs0 v103 kv103 T138.heap n0 O149 S_CS c_CS Eb138 Bv138 Bc138 Bn138 Vb138 (by simp only [List.length_append, List.length_cons, List.length_nil]; omega)) hZ127 (tw hw 212 rfl) (tw hw 143 rfl) (by decide) (by decide)) q148a q148c (g := (mkF m 29 #[vR a1, vR a2, vR a3] [(.ref b102), (.ref x)])) rfl (by rw [hml]; rfl) (Steps.refl _) (argsL := []) (rest := [(.ref x)]) (lenOf pd_23 rfl) rfl (wL _) (hb hby d22_29) (fun _ _ => ⟨rfl, rfl, (by decide : 6 + 2 ≤ _), (by decide : 64 + 20 ≤ _)⟩)
 dsimp only [Pt.U, Pt.locs, Pt.cells, Pt.slots] at X148 l148 y148 z148 st148 hQ148
 rw [l148] at X148
 subst y148 z148
 obtain ⟨x148, t148, kb148, rfl, N148q, K148, gx148, gt148, tx148, Es148, Sv148, Sc148, Vs148⟩ := hQ148
 have ltx148 : @LT.lt Nat _ x148 T148.heap.size := Es148.lt
 have ltt148 : @LT.lt Nat _ t148 T148.heap.size := Vs148.lt
 have cR9_K148 := cR8_K138.trans (CHr.keep K148 sf0 cR8_K138.1)
 have sz9_K148 := K148.1
 have N148 := Fr.app N138 N148q
 have KD151 : Keep T131.heap T148.heap [b102, v103] := ((Keep.refl _ _).trans K138 (allS (Or.inl (List.mem_of_getElem? (i := 0) rfl)) (allS (Or.inl (List.mem_of_getElem? (i := 1) rfl)) (all0)))).trans K148 (all0)
 have KD152 : Keep h0 T148.heap [] := ((Keep.refl _ _).trans KD141 (all0)).trans KD151 (allS (Or.inr (by omega)) (allS (Or.inr (by omega)) (all0)))
 have C153 := El.keep KD152
 have C154 := Ld.keep KD152 nin0
 have C155 := Ln.keep KD152 nin0
 have C156 := Lm.keep KD152 nin0
 have C157 := Ea.keep KD152
 have C158 := Va.keep KD152 nin0
 have O159 : Old Z n0 T148.heap := O149.keep K148 all0
 obtain ⟨cq150, kq150, q150a, q150b, q150c⟩ := isOf hZ127 rfl C153
 obtain ⟨_, _, ⟨T150, L150, k150, n150⟩, -, X150, ⟨Lc150, hQ150, l150, y150, z150⟩, st150⟩ := X148.interfaceBack hx (xi := mN42) (y := mN40) hown127 (mvT hZ127 (tw hw 253 rfl)) (mvT hZ127 (tw hw 254 rfl)) (mvT hZ127 (tw hw 255 rfl)) (mvT hZ127 (tw hw 256 rfl)) (mvT hZ127 (tw hw 257 rfl)) (mvT hZ127 (tw hw 258 rfl)) (mvT hZ127 (tw hw 259 rfl)) (mvT hZ127 (tw hw 92 rfl)) (by decide) (backOf (W := 0) (rmAd1 l Z a0 hw [] x x148 d f0 kd T148.heap n0 O159 (by omega : @LE.le Nat _ n0 x) (by omega : @LE.le Nat _ n0 d) (by omega) C153 C154 C155 C156 C157 C158 Oa Es148) hZ127 (tw hw 260 rfl) (tw hw 56 rfl) (by decide) (by decide)) q150a q150b q150c (g := (mkF m 32 #[vR a1, vR a2, vR a3] [(.ref x148), (.ref x)])) rfl (by rw [hml]; rfl) (Steps.refl _) (argsL := [(.ref x148)]) (rest := []) (lenOf pd_30 rfl) rfl (wL _) (hb hby d22_32) (fun _ _ => ⟨rfl, rfl, (by decide : 8 + 0 ≤ _), (by decide : 84 + 0 ≤ _)⟩)
 dsimp only [Pt.U, Pt.locs, Pt.cells, Pt.slots] at X150 l150 y150 z150 st150 hQ150
 rw [l150] at X150
 subst y150 z150
 obtain ⟨rfl, N150q, K150, El150, Ld150, Ln150, Lm150, Ea150, Va150, Oa150⟩ := hQ150
 have hs10_K150 : ∀ zz ∈ ([x, d] : List Addr), Safe Z EL1 T127.vm T148.heap zz := sfS (Safe.exa hZ127.alike C153 (by decide) (by decide)) (sfS (Safe.exa hZ127.alike C157 (by decide) (by decide)) (sf0))
 have cR10_K150 := cR9_K148.trans (CHr.keep K150 hs10_K150 cR9_K148.1)
 have sz10_K150 := K150.1
 have N150 := Fr.app N148 N150q
 have KC160 : Keep h0 h102 [x, d] := (Keep.refl h0 [x, d]).trans K102 (all0)
 have KC161 : Keep h0 T103.heap [x, d] := KC160.trans K103 (allS (Or.inr (by omega)) (all0))
 have KC162 : Keep h0 h105 [x, d] := KC161.trans K105 (all0)
 have KC163 : Keep h0 T110.heap [x, d] := KC162.trans K110 (allS (Or.inr (by omega)) (allS (Or.inr (by omega)) (all0)))
 have KC164 : Keep h0 T117.heap [x, d] := KC163.trans K117 (allS (Or.inr (by omega)) (allS (Or.inr (by omega)) (all0)))
 have KC165 : Keep h0 h127 [x, d] := KC164.trans K127 (all0)
 have KC166 : Keep h0 T131.heap [x, d] := KC165.trans K131 (allS (Or.inr (by omega)) (allS (Or.inr (by omega)) (all0)))
 have KC167 : Keep h0 T138.heap [x, d] := KC166.trans K138 (allS (Or.inr (by omega)) (allS (Or.inr (by omega)) (all0)))
 have KC168 : Keep h0 T148.heap [x, d] := KC167.trans K148 (all0)
 have KC169 : Keep h0 T150.heap [x, d] := KC168.trans K150 (allS (Or.inl (List.mem_of_getElem? (i := 0) rfl)) (allS (Or.inl (List.mem_of_getElem? (i := 1) rfl)) (all0)))
 have C170 := Es148.keep K150
 have C171 := Sv148.keep K150 (ninS (by omega : @Ne Nat x148 x) (ninS (by omega : @Ne Nat x148 d) (nin0)))
 have C172 := Sc148.keep K150 (ninS (by omega : @Ne Nat x148 x) (ninS (by omega : @Ne Nat x148 d) (nin0)))
 have C173 := Vs148.keep K150 (ninS (by omega : @Ne Nat t148 x) (ninS (by omega : @Ne Nat t148 d) (nin0)))
 obtain ⟨fs, hr, hrun, hended, eR, eW, eI, eS⟩ := Stand.leaveW (s := s) (vm₁ := T127.vm) X150 hS127 (by omega) (v := none) (fun _ => rfl)
 refine ⟨_, _, pre0 _ ?_, hrun, hended, _, _, rfl, ?_, ?_, eR, eW, eI, eS.mono (by decide) (by decide)⟩
 ·skip
  show SS p e below s₁ m 0 #[vR a1, vR a2, vR a3] [] _
  refine XS.aloadN X0.here hx rfl (hb hby d22_0) rfl rfl ?_
  show SS p e below s₁ m 1 #[vR a1, vR a2, vR a3] [(.ref a1)] _
  refine st101 _ ?_
  show SS p e below T101 m 4 #[vR a1, vR a2, vR a3] [(.ref x)] _
  refine st102 _ ?_
  refine XS.dup X102.here hx rfl (hb hby d22_7) rfl rfl ?_
  show SS p e below T102 m 8 #[vR a1, vR a2, vR a3] [(.ref b102), (.ref b102), (.ref x)] _
  refine st103.trans ?_
  show SS p e below T103 m 11 #[vR a1, vR a2, vR a3] [(.ref b102), (.ref x)] _
  refine st105 _ ?_
  show SS p e below T105 m 13 #[vR a1, vR a2, vR a3] [(.ref b105), (.ref b102), (.ref x)] _
  refine st110.trans ?_
  refine XS.aloadN X110.here hx rfl (hb hby d22_16) rfl rfl ?_
  show SS p e below T110 m 17 #[vR a1, vR a2, vR a3] [(.ref a2), (.ref b102), (.ref x)] _
  refine st117.trans ?_
  show SS p e below T117 m 20 #[vR a1, vR a2, vR a3] [(.ref b102), (.ref x)] _
  refine st127 _ ?_
  show SS p e below T127 m 22 #[vR a1, vR a2, vR a3] [(.ref b127), (.ref b102), (.ref x)] _
  refine st131.trans ?_
  refine XS.aloadN X131.here hx rfl (hb hby d22_25) rfl rfl ?_
  show SS p e below T131 m 26 #[vR a1, vR a2, vR a3] [(.ref a3), (.ref b102), (.ref x)] _
  refine st138.trans ?_
  show SS p e below T138 m 29 #[vR a1, vR a2, vR a3] [(.ref b102), (.ref x)] _
  refine st148.trans ?_
  show SS p e below T148 m 32 #[vR a1, vR a2, vR a3] [(.ref x148), (.ref x)] _
  refine st150.trans ?_
  refine XS.pop X150.here hx rfl (hb hby d22_37) rfl rfl ?_
  show SS p e below T150 m 38 #[vR a1, vR a2, vR a3] [] _
  exact X150.returnOut hx Bd.returns (hb hby d22_38) hr
 ·show Q_rmMadd1 Z a1 a2 a3 cs0 b2 b3 t2 t3 k2 k3 x d f0 kd h0 n0 _ T150.heap _
  exact ⟨_, _, _, rfl, N150, KC169, (by omega), (by omega), (by omega), C170, C171, C172, C173, El150, Ld150, Ln150, Lm150, Ea150, Va150, Oa150⟩
 ·show CHr Z EL1 s.vm s.heap T150.vm T150.heap
  rw [hh]
  exact cR10_K150.trans (CHv.at (s := s) (vm0 := T127.vm) X150 hZ127 hEW cR10_K150.1)
theorem d51_0 : DK cD40 0 (.aload_n 2) 1 := by decide +kernel
theorem d51_1 : DK cD40 1 (.ldc 110) 2 := by decide +kernel
theorem d51_3 : DK cD40 3 (.if_acmp .ne 10) 3 := by decide +kernel
theorem d51_6 : DK cD40 6 (.iload_n 1) 1 := by decide +kernel
theorem d51_7 : DK cD40 7 (.anewarray 2) 3 := by decide +kernel
theorem d51_10 : DK cD40 10 (.goto 14) 3 := by decide +kernel
theorem d51_24 : DK cD40 24 (.astore_n 3) 1 := by decide +kernel
theorem d51_25 : DK cD40 25 (.aload_n 0) 1 := by decide +kernel
theorem d51_26 : DK cD40 26 (.iconst 0) 1 := by decide +kernel
theorem d51_27 : DK cD40 27 (.aload_n 3) 1 := by decide +kernel
theorem d51_28 : DK cD40 28 (.iconst 0) 1 := by decide +kernel
theorem d51_29 : DK cD40 29 (.aload_n 0) 1 := by decide +kernel
theorem d51_30 : DK cD40 30 (.arraylength) 1 := by decide +kernel
theorem d51_31 : DK cD40 31 (.iload_n 1) 1 := by decide +kernel
theorem d51_32 : DK cD40 32 (.invokestatic 304) 3 := by decide +kernel
theorem d51_35 : DK cD40 35 (.invokestatic 150) 3 := by decide +kernel
theorem d51_38 : DK cD40 38 (.aload_n 3) 1 := by decide +kernel
theorem d51_39 : DK cD40 39 (.areturn) 1 := by decide +kernel
theorem ef_rmC3 (m : MethodId) (y0 : Addr) (y1 : Addr) : entryFrame m #[(.ref y0), (.int 2), (.ref y1)] 4 = (mkF m 0 #[vR y0, vI 2, vR y1, .unset] []) := by first | (simp [entryFrame, mkF, argsToLocals, Value.category]; done) | rfl
def Q_rmC3 (Z : State) (a1 : Addr) (f0 f1 mr : Addr) (kd : ClassId) (h0 : Heap) (n0 : Nat) (v : Option Value) (h : Heap) (L : List Loc) : Prop := ∃ (b : Addr) (kb : ClassId), v = some (.ref b) ∧ Fr n0 L ∧ Keep h0 h [] ∧ h0.size ≤ b ∧ Arv Z h b kb (.object "java/lang/Object") (2 : Int32) [(.ref f0), (.ref f1)] .null
theorem rmC3 (l : Launch) (Z : State) (a0 : Array Value) (hw : HW a0 Z) (ws : List Jvm.Cond) (a1 : Addr) (f0 f1 mr : Addr) (kd : ClassId) (h0 : Heap) (n0 : Nat) (O0 : Old Z n0 h0) (MR : Mrr Z "[Ljava/lang/Object;" mr) (Ea : Exa Z h0 a1 "[Ljava/lang/Object;") (Va : Arv Z h0 a1 kd (.object "java/lang/Object") (10 : Int32) [(.ref f0), (.ref f1), .null, .null, .null, .null, .null, .null, .null, .null] .null) (Oa : Ovr Z kd "java/lang/Object") (E0 : Exa Z h0 f0 "java/lang/String") (E1 : Exa Z h0 f1 "java/lang/String") :
  MF l mN43 jdk_65_method_120_code 4 (some (.array (.object "java/lang/Object"))) ws (Rm 1 1 2 50) Z #[(.ref a1), (.int 2), (.ref mr)] h0 (Q_rmC3 Z a1 f0 f1 mr kd h0 n0) := by
 refine MetFree.of_bodySF (plainFor_of_name pn_40) hisR ?_
 intro p e s m args below meth c s₁ Bd hml0 hP hK
 obtain ⟨rfl, hZ, hh⟩ := hP
 have hx := Bd.exec
 have hby := Bd.bytes
 have hml : c.maxLocals = 4 := hml0
 have hown : s.vm.findClass "java/util/Arrays" = some m.cls := findClass_of_methodNamed Bd.named
 have X0 : Stand p l e (Rm 1 1 2 50) s m #[(.ref a1), (.int 2), (.ref mr)] below meth c s₁ [] 0 0 := Stand.of_body Bd
 have e0 : s₁.heap = h0 := by rw [← hh, Bd.state]; rfl
 have N0 := Fr.nil n0
 have hn0 : n0 ≤ h0.size := O0.1 ▸ O0.2.1
 have pre0 : ∀ t, SS p e below s₁ m 0 #[vR a1, vI 2, vR mr, .unset] [] t → SE p e below s₁ m #[(.ref a1), (.int 2), (.ref mr)] 4 t := fun t k => castTop (ef_rmC3 m a1 mr) k
 have lt_a1 : @LT.lt Nat _ a1 h0.size := Va.lt
 have lt_f0 : @LT.lt Nat _ f0 h0.size := E0.lt
 have lt_f1 : @LT.lt Nat _ f1 h0.size := E1.lt
 obtain ⟨T101, X101, e101, st101⟩ := own_ldcM X0 hx hZ hown (tw hw 304 rfl) e0 MR (g := (mkF m 1 #[vR a1, vI 2, vR mr, .unset] [(.ref mr)])) rfl (hb hby d51_1)
 obtain ⟨T102, h102, k102, X102, e102, E102, A102, O102, st102⟩ := newR X101 hx hZ hown (tw hw 305 rfl) (tw hw 282 rfl) e101 (g := (mkF m 7 #[vR a1, vI 2, vR mr, .unset] [(.int 2)])) rfl (hb hby d51_7) rfl (by decide) (cap := 2) (by decide) (by decide) (by decide) (by decide)
 obtain ⟨b102, g102⟩ : ∃ z, z = h0.size := ⟨_, rfl⟩
 rw [← g102] at A102 st102
 have V102 : Arv Z h102 b102 k102 (.object "java/lang/Object") (2 : Int32) [.null, .null] .null := (Arv.new A102 (by decide)).pad (pad_rep [] .null 2)
 have lt102 : @LT.lt Nat _ b102 h102.size := V102.lt
 have K102 : Keep h0 h102 [] := (Keep.refl _ _).ext E102
 have sz1_K102 := K102.1
 have C103 := Va.keep K102 nin0
 obtain ⟨cl104, Ar104, q104, S104, Nn104, H104, G104⟩ := id C103
 have O106 : Old Z n0 h102 := O0.keep K102 all0
 obtain ⟨_, _, ⟨T105, L105, k105, n105⟩, -, X105, ⟨Lc105, hQ105, l105, y105, z105⟩, st105⟩ := Jvm.LawKit.callS X102 hx (y := mN3) hown (mvT hZ (tw hw 248 rfl)) (mvT hZ (tw hw 249 rfl)) (mvT hZ (tw hw 250 rfl)) (mvT hZ (tw hw 251 rfl)) (by decide) (backOf (W := 4) (rmMmin l Z a0 hw [] (10 : Int32) (2 : Int32)  h102 n0 O106 ) hZ (tw hw 251 rfl) (tw hw 250 rfl) (by decide) (by decide)) (g := (mkF m 32 #[vR a1, vI 2, vR mr, vR b102] [(.int 2), (.int 10), (.int 0), (.ref b102), (.int 0), (.ref a1)])) rfl (by rw [hml]; rfl) (argsL := [(.int 10), (.int 2)]) (rest := [(.int 0), (.ref b102), (.int 0), (.ref a1)]) (lenOf pd_29 rfl) rfl (wL _) (hb hby d51_32) (fun _ _ => ⟨rfl, e102, (by decide : 1 + 0 ≤ _), (by decide : 2 + 0 ≤ _)⟩)
 dsimp only [Pt.U, Pt.locs, Pt.cells, Pt.slots] at X105 l105 y105 z105 st105 hQ105
 rw [l105] at X105
 subst y105 z105
 obtain ⟨rfl, N105q, H105⟩ := hQ105
 have N105 := Fr.app N0 N105q
 have hr107 : (jmin (10 : Int32) (2 : Int32)) = (2 : Int32) := by decide
 obtain ⟨cl109, Ar109, q109, S109, Nn109, H109, G109⟩ := id V102
 have C110 := E0.keep K102
 have C111 := E1.keep K102
 obtain ⟨T108, h108, L108, X108, e108, N108, K108, V108w, st108⟩ := cpA X105 hx hZ hown (tw hw 252 rfl) (tw hw 206 rfl) (tw hw 204 rfl) (tw hw 205 rfl) H105 (us := [(.ref f0), (.ref f1)]) C103 V102 (Or.inr ⟨rfl, rfl, (Sto.ofV Ar109 q109 O102 (Ins.of_exa C110 (tw hw 283 rfl))), (Sto.ofV Ar109 q109 O102 (Ins.of_exa C111 (tw hw 283 rfl))), trivial⟩) (by decide) (by decide) (by decide) (by decide) (by decide) rfl (by decide) N105 (by omega : @LE.le Nat _ n0 b102) (g := (mkF m 35 #[vR a1, vI 2, vR mr, vR b102] [(.int 2), (.int 0), (.ref b102), (.int 0), (.ref a1)])) rfl (by rw [hml]; rfl) rfl (hb hby d51_35) (by decide) (W := 0) (wL _) (by decide)
 have V108 : Arv Z h108 b102 k102 (.object "java/lang/Object") (2 : Int32) [(.ref f0), (.ref f1)] .null := V108w.pad (fun _ => rfl)
 have sz2_K108 := K108.1
 have KC112 : Keep h0 h102 [] := (Keep.refl h0 []).trans K102 (all0)
 have KC113 : Keep h0 h108 [] := KC112.trans K108 (allS (Or.inr (by omega)) (all0))
 obtain ⟨fs, hr, hrun, hended, hW, hsame⟩ := X108.leave (v := some (.ref b102)) (nvr Bd.returns)
 refine ⟨_, _, pre0 _ ?_, hrun, hended, _, _, rfl, ?_, ⟨_, rfl⟩, hW, hsame.mono (by decide) (by decide)⟩
 ·skip
  show SS p e below s₁ m 0 #[vR a1, vI 2, vR mr, .unset] [] _
  refine XS.aloadN X0.here hx rfl (hb hby d51_0) rfl rfl ?_
  show SS p e below s₁ m 1 #[vR a1, vI 2, vR mr, .unset] [(.ref mr)] _
  refine st101 _ ?_
  show SS p e below T101 m 3 #[vR a1, vI 2, vR mr, .unset] [(.ref mr), (.ref mr)] _
  refine Jvm.RoadKit.acmp (g := (mkF m 3 #[vR a1, vI 2, vR mr, .unset] [(.ref mr), (.ref mr)])) X101 hx rfl rfl rfl (pc0 := 3) (pc' := 6) (same := true) rfl (hb hby d51_3) rfl (decide_eq_true rfl) (by decide) (by decide) ?_
  refine XS.iloadN X101.here hx rfl (hb hby d51_6) rfl ?_
  show SS p e below T101 m 7 #[vR a1, vI 2, vR mr, .unset] [(.int 2)] _
  refine st102 _ ?_
  refine XS.goto X102.here hx rfl (pc0 := 10) (pc' := 24) rfl (hb hby d51_10) (by decide) (by decide) ?_
  refine XS.astoreN X102.here hx rfl (hb hby d51_24) rfl rfl (l' := #[vR a1, vI 2, vR mr, vR b102]) rfl ?_
  refine XS.aloadN X102.here hx rfl (hb hby d51_25) rfl rfl ?_
  refine XS.iconst X102.here hx rfl (hb hby d51_26) ?_
  refine XS.aloadN X102.here hx rfl (hb hby d51_27) rfl rfl ?_
  refine XS.iconst X102.here hx rfl (hb hby d51_28) ?_
  refine XS.aloadN X102.here hx rfl (hb hby d51_29) rfl rfl ?_
  show SS p e below T102 m 30 #[vR a1, vI 2, vR mr, vR b102] [(.ref a1), (.int 0), (.ref b102), (.int 0), (.ref a1)] _
  refine X102.arraylength hx (by rw [e102]; exact Ar104.1) (State.isArrayOf_alike hZ.alike Ar104.2.1) (g := (mkF m 30 #[vR a1, vI 2, vR mr, vR b102] [(.ref a1), (.int 0), (.ref b102), (.int 0), (.ref a1)])) rfl rfl (hb hby d51_30) _ ?_
  rw [len_of S104 Nn104]
  refine XS.iloadN X102.here hx rfl (hb hby d51_31) rfl ?_
  show SS p e below T102 m 32 #[vR a1, vI 2, vR mr, vR b102] [(.int 2), (.int 10), (.int 0), (.ref b102), (.int 0), (.ref a1)] _
  refine st105 _ ?_
  show SS p e below T105 m 35 #[vR a1, vI 2, vR mr, vR b102] [(.int (jmin (10 : Int32) (2 : Int32))), (.int 0), (.ref b102), (.int 0), (.ref a1)] _
  rw [hr107]
  show SS p e below T105 m 35 #[vR a1, vI 2, vR mr, vR b102] [(.int 2), (.int 0), (.ref b102), (.int 0), (.ref a1)] _
  refine st108 _ ?_
  refine XS.aloadN X108.here hx rfl (hb hby d51_38) rfl rfl ?_
  show SS p e below T108 m 39 #[vR a1, vI 2, vR mr, vR b102] [(.ref b102)] _
  exact X108.areturnOut hx rfl Bd.returns rfl (hb hby d51_39) hr
 ·show Q_rmC3 Z a1 f0 f1 mr kd h0 n0 _ T108.heap _
  rw [e108]
  exact ⟨_, _, rfl, N108, KC113, (by omega), V108⟩
theorem d50_0 : DK cD41 0 (.aload_n 0) 1 := by decide +kernel
theorem d50_1 : DK cD41 1 (.iload_n 1) 1 := by decide +kernel
theorem d50_2 : DK cD41 2 (.aload_n 0) 1 := by decide +kernel
theorem d50_3 : DK cD41 3 (.invokevirtual 86) 3 := by decide +kernel
theorem d50_6 : DK cD41 6 (.invokestatic 300) 3 := by decide +kernel
theorem d50_9 : DK cD41 9 (.areturn) 1 := by decide +kernel
theorem pd_36 : parseMethodDescriptor "([Ljava/lang/Object;ILjava/lang/Class;)[Ljava/lang/Object;" = some ⟨[(.array (.object "java/lang/Object")), .int, (.object "java/lang/Class")], some (.array (.object "java/lang/Object"))⟩ := by decide +kernel
theorem ef_rmC2 (m : MethodId) (y0 : Addr) : entryFrame m #[(.ref y0), (.int 2)] 2 = (mkF m 0 #[vR y0, vI 2] []) := by first | (simp [entryFrame, mkF, argsToLocals, Value.category]; done) | rfl
def Q_rmC2 (Z : State) (a1 : Addr) (f0 f1 mr : Addr) (kd : ClassId) (h0 : Heap) (n0 : Nat) (v : Option Value) (h : Heap) (L : List Loc) : Prop := ∃ (b : Addr) (kb : ClassId), v = some (.ref b) ∧ Fr n0 L ∧ Keep h0 h [] ∧ h0.size ≤ b ∧ Arv Z h b kb (.object "java/lang/Object") (2 : Int32) [(.ref f0), (.ref f1)] .null
theorem rmC2 (l : Launch) (Z : State) (a0 : Array Value) (hw : HW a0 Z) (ws : List Jvm.Cond) (a1 : Addr) (f0 f1 mr : Addr) (kd : ClassId) (h0 : Heap) (n0 : Nat) (O0 : Old Z n0 h0) (MR : Mrr Z "[Ljava/lang/Object;" mr) (Ea : Exa Z h0 a1 "[Ljava/lang/Object;") (Va : Arv Z h0 a1 kd (.object "java/lang/Object") (10 : Int32) [(.ref f0), (.ref f1), .null, .null, .null, .null, .null, .null, .null, .null] .null) (Oa : Ovr Z kd "java/lang/Object") (E0 : Exa Z h0 f0 "java/lang/String") (E1 : Exa Z h0 f1 "java/lang/String") :
  MF l mN44 jdk_65_method_119_code 2 (some (.array (.object "java/lang/Object"))) ws (Rm 2 1 2 70) Z #[(.ref a1), (.int 2)] h0 (Q_rmC2 Z a1 f0 f1 mr kd h0 n0) := by
 refine MetFree.of_bodySF (plainFor_of_name pn_40) hisR ?_
 intro p e s m args below meth c s₁ Bd hml0 hP hK
 obtain ⟨rfl, hZ, hh⟩ := hP
 have hx := Bd.exec
 have hby := Bd.bytes
 have hml : c.maxLocals = 2 := hml0
 have hown : s.vm.findClass "java/util/Arrays" = some m.cls := findClass_of_methodNamed Bd.named
 have X0 : Stand p l e (Rm 2 1 2 70) s m #[(.ref a1), (.int 2)] below meth c s₁ [] 0 0 := Stand.of_body Bd
 have e0 : s₁.heap = h0 := by rw [← hh, Bd.state]; rfl
 have N0 := Fr.nil n0
 have hn0 : n0 ≤ h0.size := O0.1 ▸ O0.2.1
 have pre0 : ∀ t, SS p e below s₁ m 0 #[vR a1, vI 2] [] t → SE p e below s₁ m #[(.ref a1), (.int 2)] 2 t := fun t k => castTop (ef_rmC2 m a1) k
 have lt_a1 : @LT.lt Nat _ a1 h0.size := Va.lt
 have lt_f0 : @LT.lt Nat _ f0 h0.size := E0.lt
 have lt_f1 : @LT.lt Nat _ f1 h0.size := E1.lt
 obtain ⟨T101, X101, e101, st101⟩ := own_gcls X0 hx hZ hown (tw hw 295 rfl) (tw hw 296 rfl) (tw hw 113 rfl) (tw hw 298 rfl) (tw hw 297 rfl) (tw hw 299 rfl) e0 Ea MR (g := (mkF m 3 #[vR a1, vI 2] [(.ref a1), (.int 2), (.ref a1)])) rfl (by rw [hml]; rfl) rfl (hb hby d50_3) (by decide) (W := 2) (wL _) (by decide)
 obtain ⟨_, _, ⟨T102, L102, k102, n102⟩, -, X102, ⟨Lc102, hQ102, l102, y102, z102⟩, st102⟩ := Jvm.LawKit.callS X101 hx (y := mN43) hown (mvT hZ (tw hw 301 rfl)) (mvT hZ (tw hw 302 rfl)) (mvT hZ (tw hw 240 rfl)) (mvT hZ (tw hw 303 rfl)) (by decide) (backOf (W := 0) (rmC3 l Z a0 hw [] a1 f0 f1 mr kd h0 n0 O0 MR Ea Va Oa E0 E1) hZ (tw hw 303 rfl) (tw hw 240 rfl) (by decide) (by decide)) (g := (mkF m 6 #[vR a1, vI 2] [(.ref mr), (.int 2), (.ref a1)])) rfl (by rw [hml]; rfl) (argsL := [(.ref a1), (.int 2), (.ref mr)]) (rest := []) (lenOf pd_36 rfl) rfl (wL _) (hb hby d50_6) (fun _ _ => ⟨rfl, e101, (by decide : 0 + 1 ≤ _), (by decide : 0 + 2 ≤ _)⟩)
 dsimp only [Pt.U, Pt.locs, Pt.cells, Pt.slots] at X102 l102 y102 z102 st102 hQ102
 rw [l102] at X102
 subst y102 z102
 obtain ⟨b102, kb102, rfl, N102q, K102, gb102, V102⟩ := hQ102
 have lt102 : @LT.lt Nat _ b102 T102.heap.size := V102.lt
 have sz1_K102 := K102.1
 have N102 := Fr.app N0 N102q
 have KC103 : Keep h0 T102.heap [] := (Keep.refl h0 []).trans K102 (all0)
 obtain ⟨fs, hr, hrun, hended, hW, hsame⟩ := X102.leave (v := some (.ref b102)) (nvr Bd.returns)
 refine ⟨_, _, pre0 _ ?_, hrun, hended, _, _, rfl, ?_, ⟨_, rfl⟩, hW, hsame.mono (by decide) (by decide)⟩
 ·skip
  show SS p e below s₁ m 0 #[vR a1, vI 2] [] _
  refine XS.aloadN X0.here hx rfl (hb hby d50_0) rfl rfl ?_
  refine XS.iloadN X0.here hx rfl (hb hby d50_1) rfl ?_
  refine XS.aloadN X0.here hx rfl (hb hby d50_2) rfl rfl ?_
  show SS p e below s₁ m 3 #[vR a1, vI 2] [(.ref a1), (.int 2), (.ref a1)] _
  refine st101 _ ?_
  show SS p e below T101 m 6 #[vR a1, vI 2] [(.ref mr), (.int 2), (.ref a1)] _
  refine st102 _ ?_
  show SS p e below T102 m 9 #[vR a1, vI 2] [(.ref b102)] _
  exact X102.areturnOut hx rfl Bd.returns rfl (hb hby d50_9) hr
 ·show Q_rmC2 Z a1 f0 f1 mr kd h0 n0 _ T102.heap _
  exact ⟨_, _, rfl, N102, KC103, (by omega), V102⟩
theorem d49_0 : DK cD42 0 (.aload_n 0) 1 := by decide +kernel
theorem d49_1 : DK cD42 1 (.getfield 9) 3 := by decide +kernel
theorem d49_4 : DK cD42 4 (.aload_n 0) 1 := by decide +kernel
theorem d49_5 : DK cD42 5 (.getfield 48) 3 := by decide +kernel
theorem d49_8 : DK cD42 8 (.invokestatic 66) 3 := by decide +kernel
theorem d49_11 : DK cD42 11 (.areturn) 1 := by decide +kernel
theorem pd_34 : parseMethodDescriptor "([Ljava/lang/Object;I)[Ljava/lang/Object;" = some ⟨[(.array (.object "java/lang/Object")), .int], some (.array (.object "java/lang/Object"))⟩ := by decide +kernel
theorem ef_rmTa (m : MethodId) (y0 : Addr) : entryFrame m #[(.ref y0)] 1 = (mkF m 0 #[vR y0] []) := by first | (simp [entryFrame, mkF, argsToLocals, Value.category]; done) | rfl
def Q_rmTa (Z : State) (a1 : Addr) (d f0 f1 mr : Addr) (kd : ClassId) (h0 : Heap) (n0 : Nat) (v : Option Value) (h : Heap) (L : List Loc) : Prop := ∃ (b : Addr) (kb : ClassId), v = some (.ref b) ∧ Fr n0 L ∧ Keep h0 h [] ∧ h0.size ≤ b ∧ Arv Z h b kb (.object "java/lang/Object") (2 : Int32) [(.ref f0), (.ref f1)] .null
theorem rmTa (l : Launch) (Z : State) (a0 : Array Value) (hw : HW a0 Z) (ws : List Jvm.Cond) (a1 : Addr) (d f0 f1 mr : Addr) (kd : ClassId) (h0 : Heap) (n0 : Nat) (O0 : Old Z n0 h0) (MR : Mrr Z "[Ljava/lang/Object;" mr) (El : Exa Z h0 a1 "java/util/ArrayList") (Ld : Fld Z h0 a1 "java/util/ArrayList" "elementData" "[Ljava/lang/Object;" (.ref d)) (Ln : Fld Z h0 a1 "java/util/ArrayList" "size" "I" (.int 2)) (Ea : Exa Z h0 d "[Ljava/lang/Object;") (Va : Arv Z h0 d kd (.object "java/lang/Object") (10 : Int32) [(.ref f0), (.ref f1), .null, .null, .null, .null, .null, .null, .null, .null] .null) (Oa : Ovr Z kd "java/lang/Object") (E0 : Exa Z h0 f0 "java/lang/String") (E1 : Exa Z h0 f1 "java/lang/String") :
  MF l mN45 jdk_38_method_16_code 1 (some (.array (.object "java/lang/Object"))) ws (Rm 3 1 2 90) Z #[(.ref a1)] h0 (Q_rmTa Z a1 d f0 f1 mr kd h0 n0) := by
 refine MetFree.of_bodySF (plainFor_of_name pn_12) hisR ?_
 intro p e s m args below meth c s₁ Bd hml0 hP hK
 obtain ⟨rfl, hZ, hh⟩ := hP
 have hx := Bd.exec
 have hby := Bd.bytes
 have hml : c.maxLocals = 1 := hml0
 have hown : s.vm.findClass "java/util/ArrayList" = some m.cls := findClass_of_methodNamed Bd.named
 have X0 : Stand p l e (Rm 3 1 2 90) s m #[(.ref a1)] below meth c s₁ [] 0 0 := Stand.of_body Bd
 have e0 : s₁.heap = h0 := by rw [← hh, Bd.state]; rfl
 have N0 := Fr.nil n0
 have hn0 : n0 ≤ h0.size := O0.1 ▸ O0.2.1
 have pre0 : ∀ t, SS p e below s₁ m 0 #[vR a1] [] t → SE p e below s₁ m #[(.ref a1)] 1 t := fun t k => castTop (ef_rmTa m a1) k
 have lt_a1 : @LT.lt Nat _ a1 h0.size := El.lt
 have lt_d : @LT.lt Nat _ d h0.size := Va.lt
 have lt_f0 : @LT.lt Nat _ f0 h0.size := E0.lt
 have lt_f1 : @LT.lt Nat _ f1 h0.size := E1.lt
 obtain ⟨T101, X101, e101, st101⟩ := getF X0 hx hZ hown (host := "") (Or.inl (tw hw 76 rfl)) Via.refl e0 Ld (g := (mkF m 1 #[vR a1] [(.ref a1)])) rfl rfl (hb hby d49_1)
 obtain ⟨T102, X102, e102, st102⟩ := getF X101 hx hZ hown (host := "") (Or.inl (tw hw 94 rfl)) Via.refl e101 Ln (g := (mkF m 5 #[vR a1] [(.ref a1), (.ref d)])) rfl rfl (hb hby d49_5)
 obtain ⟨_, _, ⟨T103, L103, k103, n103⟩, -, X103, ⟨Lc103, hQ103, l103, y103, z103⟩, st103⟩ := Jvm.LawKit.callS X102 hx (y := mN44) hown (mvT hZ (tw hw 292 rfl)) (mvT hZ (tw hw 293 rfl)) (mvT hZ (tw hw 240 rfl)) (mvT hZ (tw hw 294 rfl)) (by decide) (backOf (W := 0) (rmC2 l Z a0 hw [] d f0 f1 mr kd h0 n0 O0 MR Ea Va Oa E0 E1) hZ (tw hw 294 rfl) (tw hw 240 rfl) (by decide) (by decide)) (g := (mkF m 8 #[vR a1] [(.int 2), (.ref d)])) rfl (by rw [hml]; rfl) (argsL := [(.ref d), (.int 2)]) (rest := []) (lenOf pd_34 rfl) rfl (wL _) (hb hby d49_8) (fun _ _ => ⟨rfl, e102, (by decide : 0 + 1 ≤ _), (by decide : 0 + 2 ≤ _)⟩)
 dsimp only [Pt.U, Pt.locs, Pt.cells, Pt.slots] at X103 l103 y103 z103 st103 hQ103
 rw [l103] at X103
 subst y103 z103
 obtain ⟨b103, kb103, rfl, N103q, K103, gb103, V103⟩ := hQ103
 have lt103 : @LT.lt Nat _ b103 T103.heap.size := V103.lt
 have sz1_K103 := K103.1
 have N103 := Fr.app N0 N103q
 have KC104 : Keep h0 T103.heap [] := (Keep.refl h0 []).trans K103 (all0)
 obtain ⟨fs, hr, hrun, hended, hW, hsame⟩ := X103.leave (v := some (.ref b103)) (nvr Bd.returns)
 refine ⟨_, _, pre0 _ ?_, hrun, hended, _, _, rfl, ?_, ⟨_, rfl⟩, hW, hsame.mono (by decide) (by decide)⟩
 ·skip
  show SS p e below s₁ m 0 #[vR a1] [] _
  refine XS.aloadN X0.here hx rfl (hb hby d49_0) rfl rfl ?_
  show SS p e below s₁ m 1 #[vR a1] [(.ref a1)] _
  refine st101 _ ?_
  refine XS.aloadN X101.here hx rfl (hb hby d49_4) rfl rfl ?_
  show SS p e below T101 m 5 #[vR a1] [(.ref a1), (.ref d)] _
  refine st102 _ ?_
  show SS p e below T102 m 8 #[vR a1] [(.int 2), (.ref d)] _
  refine st103 _ ?_
  show SS p e below T103 m 11 #[vR a1] [(.ref b103)] _
  exact X103.areturnOut hx rfl Bd.returns rfl (hb hby d49_11) hr
 ·show Q_rmTa Z a1 d f0 f1 mr kd h0 n0 _ T103.heap _
  exact ⟨_, _, rfl, N103, KC104, (by omega), V103⟩
theorem d56_0 : DK cD43 0 (.aload_n 0) 1 := by decide +kernel
theorem d56_1 : DK cD43 1 (.ifnonnull 11) 3 := by decide +kernel
theorem d56_12 : DK cD43 12 (.aload_n 0) 1 := by decide +kernel
theorem d56_13 : DK cD43 13 (.areturn) 1 := by decide +kernel
theorem pn_56 : plainName "java/util/Objects" = true := by first | (simp [plainName, overriddenIn]; done) | decide +kernel
theorem ef_rmRnn (m : MethodId) (y0 : Addr) : entryFrame m #[(.ref y0)] 1 = (mkF m 0 #[vR y0] []) := by first | (simp [entryFrame, mkF, argsToLocals, Value.category]; done) | rfl
def Q_rmRnn (Z : State) (a1 : Addr) (h0 : Heap) (n0 : Nat) (v : Option Value) (h : Heap) (L : List Loc) : Prop := v = some (.ref a1) ∧ Fr n0 L ∧ h = h0
theorem rmRnn (l : Launch) (Z : State) (a0 : Array Value) (hw : HW a0 Z) (ws : List Jvm.Cond) (a1 : Addr) (h0 : Heap) (n0 : Nat) (O0 : Old Z n0 h0) :
  MF l mN46 jdk_31_method_10_code 1 (some (.object "java/lang/Object")) ws (Rm 0 0 0 0) Z #[(.ref a1)] h0 (Q_rmRnn Z a1 h0 n0) := by
 refine MetFree.of_bodySF (plainFor_of_name pn_56) hisR ?_
 intro p e s m args below meth c s₁ Bd hml0 hP hK
 obtain ⟨rfl, hZ, hh⟩ := hP
 have hx := Bd.exec
 have hby := Bd.bytes
 have hml : c.maxLocals = 1 := hml0
 have hown : s.vm.findClass "java/util/Objects" = some m.cls := findClass_of_methodNamed Bd.named
 have X0 : Stand p l e (Rm 0 0 0 0) s m #[(.ref a1)] below meth c s₁ [] 0 0 := Stand.of_body Bd
 have e0 : s₁.heap = h0 := by rw [← hh, Bd.state]; rfl
 have N0 := Fr.nil n0
 have hn0 : n0 ≤ h0.size := O0.1 ▸ O0.2.1
 have pre0 : ∀ t, SS p e below s₁ m 0 #[vR a1] [] t → SE p e below s₁ m #[(.ref a1)] 1 t := fun t k => castTop (ef_rmRnn m a1) k
 obtain ⟨fs, hr, hrun, hended, hW, hsame⟩ := X0.leave (v := some (.ref a1)) (nvr Bd.returns)
 refine ⟨_, _, pre0 _ ?_, hrun, hended, _, _, rfl, ?_, ⟨_, rfl⟩, hW, hsame.mono (by decide) (by decide)⟩
 ·skip
  show SS p e below s₁ m 0 #[vR a1] [] _
  refine XS.aloadN X0.here hx rfl (hb hby d56_0) rfl rfl ?_
  refine XS.ifnonnullYes X0.here hx rfl (pc0 := 1) (pc' := 12) rfl (hb hby d56_1) rfl (by decide) (by decide) ?_
  refine XS.aloadN X0.here hx rfl (hb hby d56_12) rfl rfl ?_
  show SS p e below s₁ m 13 #[vR a1] [(.ref a1)] _
  exact X0.areturnOut hx rfl Bd.returns rfl (hb hby d56_13) hr
 ·show Q_rmRnn Z a1 h0 n0 _ s₁.heap _
  rw [e0]
  exact ⟨rfl, N0, rfl⟩
theorem d53_0 : DK cD44 0 (.aload_n 0) 1 := by decide +kernel
theorem d53_1 : DK cD44 1 (.invokespecial 1) 3 := by decide +kernel
theorem d53_4 : DK cD44 4 (.aload_n 0) 1 := by decide +kernel
theorem d53_5 : DK cD44 5 (.aload_n 1) 1 := by decide +kernel
theorem d53_6 : DK cD44 6 (.invokestatic 7) 3 := by decide +kernel
theorem d53_9 : DK cD44 9 (.putfield 13) 3 := by decide +kernel
theorem d53_12 : DK cD44 12 (.aload_n 0) 1 := by decide +kernel
theorem d53_13 : DK cD44 13 (.aload_n 2) 1 := by decide +kernel
theorem d53_14 : DK cD44 14 (.invokestatic 7) 3 := by decide +kernel
theorem d53_17 : DK cD44 17 (.putfield 24) 3 := by decide +kernel
theorem d53_20 : DK cD44 20 (.return_) 1 := by decide +kernel
theorem pn_53 : plainName "java/util/ImmutableCollections$List12" = true := by first | (simp [plainName, overriddenIn]; done) | decide +kernel
theorem pd_39 : parseMethodDescriptor "(Ljava/lang/Object;)Ljava/lang/Object;" = some ⟨[(.object "java/lang/Object")], some (.object "java/lang/Object")⟩ := by decide +kernel
theorem ef_rmI12 (m : MethodId) (y0 : Addr) (y1 : Addr) (y2 : Addr) : entryFrame m #[(.ref y0), (.ref y1), (.ref y2)] 3 = (mkF m 0 #[vR y0, vR y1, vR y2] []) := by first | (simp [entryFrame, mkF, argsToLocals, Value.category]; done) | rfl
def Q_rmI12 (Z : State) (a1 : Addr) (a2 : Addr) (a3 : Addr) (h0 : Heap) (n0 : Nat) (v : Option Value) (h : Heap) (L : List Loc) : Prop := v = none ∧ Fr n0 L ∧ Keep h0 h [a1] ∧ Exa Z h a1 "java/util/ImmutableCollections$List12" ∧ Fld Z h a1 "java/util/ImmutableCollections$List12" "e0" "Ljava/lang/Object;" (.ref a2) ∧ Fld Z h a1 "java/util/ImmutableCollections$List12" "e1" "Ljava/lang/Object;" (.ref a3)
theorem rmI12 (l : Launch) (Z : State) (a0 : Array Value) (hw : HW a0 Z) (ws : List Jvm.Cond) (a1 : Addr) (a2 : Addr) (a3 : Addr) (h0 : Heap) (n0 : Nat) (O0 : Old Z n0 h0) (g1 : n0 ≤ a1) (Et : Exa Z h0 a1 "java/util/ImmutableCollections$List12") (Ta : Fld Z h0 a1 "java/util/ImmutableCollections$List12" "e0" "Ljava/lang/Object;" .null) (Tb : Fld Z h0 a1 "java/util/ImmutableCollections$List12" "e1" "Ljava/lang/Object;" .null) :
  MF l mN47 jdk_44_method_2_code 3 none ws (Rm 4 0 0 52) Z #[(.ref a1), (.ref a2), (.ref a3)] h0 (Q_rmI12 Z a1 a2 a3 h0 n0) := by
 refine MetFree.of_bodySF (plainFor_of_name pn_53) hisR ?_
 intro p e s m args below meth c s₁ Bd hml0 hP hK
 obtain ⟨rfl, hZ, hh⟩ := hP
 have hx := Bd.exec
 have hby := Bd.bytes
 have hml : c.maxLocals = 3 := hml0
 have hown : s.vm.findClass "java/util/ImmutableCollections$List12" = some m.cls := findClass_of_methodNamed Bd.named
 have hnm := (name_of_methodNamed Bd.named Bd.method).1
 have X0 : Stand p l e (Rm 4 0 0 52) s m #[(.ref a1), (.ref a2), (.ref a3)] below meth c s₁ [] 0 0 := Stand.of_body Bd
 have e0 : s₁.heap = h0 := by rw [← hh, Bd.state]; rfl
 have N0 := Fr.nil n0
 have hn0 : n0 ≤ h0.size := O0.1 ▸ O0.2.1
 have pre0 : ∀ t, SS p e below s₁ m 0 #[vR a1, vR a2, vR a3] [] t → SE p e below s₁ m #[(.ref a1), (.ref a2), (.ref a3)] 3 t := fun t k => castTop (ef_rmI12 m a1 a2 a3) k
 have lt_a1 : @LT.lt Nat _ a1 h0.size := Et.lt
 obtain ⟨_, _, ⟨T101, L101, k101, n101⟩, -, X101, ⟨Lc101, hQ101, l101, y101, z101⟩, st101⟩ := X0.specialBack hx (y := mN24) rfl hown (mvT hZ (tw hw 316 rfl)) (mvT hZ (tw hw 317 rfl)) (mvT hZ (tw hw 321 rfl)) (by decide) (backOf (W := 0) (rmAIL l Z a0 hw [] a1  h0 n0 O0 ) hZ (tw hw 321 rfl) (tw hw 320 rfl) (by decide) (by decide)) (g := (mkF m 1 #[vR a1, vR a2, vR a3] [(.ref a1)])) rfl (by rw [hml]; rfl) (Steps.refl _) (a := a1) (argsL := []) (rest := []) (lenOf pd_2 rfl) rfl (wL _) (hb hby d53_1) (fun _ _ => ⟨rfl, e0, (by decide : 0 + 0 ≤ _), (by decide : 0 + 0 ≤ _)⟩)
 dsimp only [Pt.U, Pt.locs, Pt.cells, Pt.slots] at X101 l101 y101 z101 st101 hQ101
 rw [l101] at X101
 subst y101 z101
 obtain ⟨rfl, N101q, H101⟩ := hQ101
 have N101 := Fr.app N0 N101q
 obtain ⟨_, _, ⟨T102, L102, k102, n102⟩, -, X102, ⟨Lc102, hQ102, l102, y102, z102⟩, st102⟩ := Jvm.LawKit.callS X101 hx (y := mN46) hown (mvT hZ (tw hw 330 rfl)) (mvT hZ (tw hw 331 rfl)) (mvT hZ (tw hw 332 rfl)) (mvT hZ (tw hw 333 rfl)) (by decide) (backOf (W := 1) (rmRnn l Z a0 hw [] a2  h0 n0 O0 ) hZ (tw hw 333 rfl) (tw hw 332 rfl) (by decide) (by decide)) (g := (mkF m 6 #[vR a1, vR a2, vR a3] [(.ref a2), (.ref a1)])) rfl (by rw [hml]; rfl) (argsL := [(.ref a2)]) (rest := [(.ref a1)]) (lenOf pd_39 rfl) rfl (wL _) (hb hby d53_6) (fun _ _ => ⟨rfl, H101, (by decide : 0 + 0 ≤ _), (by decide : 0 + 0 ≤ _)⟩)
 dsimp only [Pt.U, Pt.locs, Pt.cells, Pt.slots] at X102 l102 y102 z102 st102 hQ102
 rw [l102] at X102
 subst y102 z102
 obtain ⟨rfl, N102q, H102⟩ := hQ102
 have N102 := Fr.app N101 N102q
 obtain ⟨T103, h103, X103, e103, W103, st103⟩ := putF X102 hx hZ hown (host := "") (Or.inl (tw hw 334 rfl)) Via.refl H102 Ta Et (Or.inr ⟨(tw hw 335 rfl), rfl, hnm⟩) (tw hw 310 rfl) (ty := (.object "java/lang/Object")) (by decide) rfl rfl (g := (mkF m 9 #[vR a1, vR a2, vR a3] [(.ref a2), (.ref a1)])) rfl rfl (hb hby d53_9)
 have K103 := Keep.of_wr W103
 have Fw103 := Fld.same W103 Ta
 have N103 := Fr.snoc X103 N102 (by omega : @LE.le Nat _ n0 a1)
 have sz1_K103 := K103.1
 have O105 : Old Z n0 h103 := O0.keep K103 (allS (by omega) (all0))
 obtain ⟨_, _, ⟨T104, L104, k104, n104⟩, -, X104, ⟨Lc104, hQ104, l104, y104, z104⟩, st104⟩ := Jvm.LawKit.callS X103 hx (y := mN46) hown (mvT hZ (tw hw 330 rfl)) (mvT hZ (tw hw 331 rfl)) (mvT hZ (tw hw 332 rfl)) (mvT hZ (tw hw 333 rfl)) (by decide) (backOf (W := 1) (rmRnn l Z a0 hw [] a3  h103 n0 O105 ) hZ (tw hw 333 rfl) (tw hw 332 rfl) (by decide) (by decide)) (g := (mkF m 14 #[vR a1, vR a2, vR a3] [(.ref a3), (.ref a1)])) rfl (by rw [hml]; rfl) (argsL := [(.ref a3)]) (rest := [(.ref a1)]) (lenOf pd_39 rfl) rfl (wL _) (hb hby d53_14) (fun _ _ => ⟨rfl, e103, (by decide : 0 + 0 ≤ _), (by decide : 0 + 0 ≤ _)⟩)
 dsimp only [Pt.U, Pt.locs, Pt.cells, Pt.slots] at X104 l104 y104 z104 st104 hQ104
 rw [l104] at X104
 subst y104 z104
 obtain ⟨rfl, N104q, H104⟩ := hQ104
 have N104 := Fr.app N103 N104q
 have C106 := Et.keep K103
 have C107 := Fld.other W103 Tb (Or.inr (slot_ne (Or.inr (tw hw 337 rfl)) (Or.inr (tw hw 335 rfl)) (by decide) (t := (.object "java/lang/Object")) (t' := (.object "java/lang/Object")) (by decide) (by decide)))
 obtain ⟨T108, h108, X108, e108, W108, st108⟩ := putF X104 hx hZ hown (host := "") (Or.inl (tw hw 336 rfl)) Via.refl H104 C107 C106 (Or.inr ⟨(tw hw 337 rfl), rfl, hnm⟩) (tw hw 310 rfl) (ty := (.object "java/lang/Object")) (by decide) rfl rfl (g := (mkF m 17 #[vR a1, vR a2, vR a3] [(.ref a3), (.ref a1)])) rfl rfl (hb hby d53_17)
 have K108 := Keep.of_wr W108
 have Fw108 := Fld.same W108 C107
 have N108 := Fr.snoc X108 N104 (by omega : @LE.le Nat _ n0 a1)
 have sz2_K108 := K108.1
 have KC109 : Keep h0 h103 [a1] := (Keep.refl h0 [a1]).trans K103 (allS (Or.inl (List.mem_of_getElem? (i := 0) rfl)) (all0))
 have KC110 : Keep h0 h108 [a1] := KC109.trans K108 (allS (Or.inl (List.mem_of_getElem? (i := 0) rfl)) (all0))
 have C111 := C106.keep K108
 have C112 := Fld.other W108 Fw103 (Or.inr (slot_ne (Or.inr (tw hw 335 rfl)) (Or.inr (tw hw 337 rfl)) (by decide) (t := (.object "java/lang/Object")) (t' := (.object "java/lang/Object")) (by decide) (by decide)))
 obtain ⟨fs, hr, hrun, hended, hW, hsame⟩ := X108.leave (v := none) (fun _ => rfl)
 refine ⟨_, _, pre0 _ ?_, hrun, hended, _, _, rfl, ?_, ⟨_, rfl⟩, hW, hsame.mono (by decide) (by decide)⟩
 ·skip
  show SS p e below s₁ m 0 #[vR a1, vR a2, vR a3] [] _
  refine XS.aloadN X0.here hx rfl (hb hby d53_0) rfl rfl ?_
  show SS p e below s₁ m 1 #[vR a1, vR a2, vR a3] [(.ref a1)] _
  refine st101.trans ?_
  refine XS.aloadN X101.here hx rfl (hb hby d53_4) rfl rfl ?_
  refine XS.aloadN X101.here hx rfl (hb hby d53_5) rfl rfl ?_
  show SS p e below T101 m 6 #[vR a1, vR a2, vR a3] [(.ref a2), (.ref a1)] _
  refine st102 _ ?_
  show SS p e below T102 m 9 #[vR a1, vR a2, vR a3] [(.ref a2), (.ref a1)] _
  refine st103 _ ?_
  refine XS.aloadN X103.here hx rfl (hb hby d53_12) rfl rfl ?_
  refine XS.aloadN X103.here hx rfl (hb hby d53_13) rfl rfl ?_
  show SS p e below T103 m 14 #[vR a1, vR a2, vR a3] [(.ref a3), (.ref a1)] _
  refine st104 _ ?_
  show SS p e below T104 m 17 #[vR a1, vR a2, vR a3] [(.ref a3), (.ref a1)] _
  refine st108 _ ?_
  show SS p e below T108 m 20 #[vR a1, vR a2, vR a3] [] _
  exact X108.returnOut hx Bd.returns (hb hby d53_20) hr
 ·show Q_rmI12 Z a1 a2 a3 h0 n0 _ T108.heap _
  rw [e108]
  exact ⟨rfl, N108, KC110, C111, C112, Fw108⟩
theorem d52_0 : DK cD45 0 (.aload_n 0) 1 := by decide +kernel
theorem d52_1 : DK cD45 1 (.arraylength) 1 := by decide +kernel
theorem d52_2 : DK cD45 2 (.tableswitch 57 0 2 #[26, 32, 43]) 26 := by decide +kernel
theorem d52_45 : DK cD45 45 (.new 96) 3 := by decide +kernel
theorem d52_48 : DK cD45 48 (.dup) 1 := by decide +kernel
theorem d52_49 : DK cD45 49 (.aload_n 0) 1 := by decide +kernel
theorem d52_50 : DK cD45 50 (.iconst 0) 1 := by decide +kernel
theorem d52_51 : DK cD45 51 (.aaload) 1 := by decide +kernel
theorem d52_52 : DK cD45 52 (.aload_n 0) 1 := by decide +kernel
theorem d52_53 : DK cD45 53 (.iconst 1) 1 := by decide +kernel
theorem d52_54 : DK cD45 54 (.aaload) 1 := by decide +kernel
theorem d52_55 : DK cD45 55 (.invokespecial 100) 3 := by decide +kernel
theorem d52_58 : DK cD45 58 (.areturn) 1 := by decide +kernel
theorem pd_38 : parseMethodDescriptor "(Ljava/lang/Object;Ljava/lang/Object;)V" = some ⟨[(.object "java/lang/Object"), (.object "java/lang/Object")], none⟩ := by decide +kernel
theorem ef_rmLo2 (m : MethodId) (y0 : Addr) : entryFrame m #[(.ref y0)] 2 = (mkF m 0 #[vR y0, .unset] []) := by first | (simp [entryFrame, mkF, argsToLocals, Value.category]; done) | rfl
def Q_rmLo2 (Z : State) (a1 : Addr) (f0 f1 : Addr) (kb : ClassId) (h0 : Heap) (n0 : Nat) (v : Option Value) (h : Heap) (L : List Loc) : Prop := ∃ x : Addr, v = some (.ref x) ∧ Fr n0 L ∧ Keep h0 h [] ∧ h0.size ≤ x ∧ Exa Z h x "java/util/ImmutableCollections$List12" ∧ Fld Z h x "java/util/ImmutableCollections$List12" "e0" "Ljava/lang/Object;" (.ref f0) ∧ Fld Z h x "java/util/ImmutableCollections$List12" "e1" "Ljava/lang/Object;" (.ref f1)
theorem rmLo2 (l : Launch) (Z : State) (a0 : Array Value) (hw : HW a0 Z) (ws : List Jvm.Cond) (a1 : Addr) (f0 f1 : Addr) (kb : ClassId) (h0 : Heap) (n0 : Nat) (O0 : Old Z n0 h0) (Vo : Arv Z h0 a1 kb (.object "java/lang/Object") (2 : Int32) [(.ref f0), (.ref f1)] .null) :
  MF l mN48 jdk_40_method_47_code 2 (some (.object "java/util/List")) ws (Rm 5 1 2 70) Z #[(.ref a1)] h0 (Q_rmLo2 Z a1 f0 f1 kb h0 n0) := by
 refine MetFree.of_bodySF (plainFor_of_name pn_18) hisR ?_
 intro p e s m args below meth c s₁ Bd hml0 hP hK
 obtain ⟨rfl, hZ, hh⟩ := hP
 have hx := Bd.exec
 have hby := Bd.bytes
 have hml : c.maxLocals = 2 := hml0
 have hown : s.vm.findClass "java/util/List" = some m.cls := findClass_of_methodNamed Bd.named
 have X0 : Stand p l e (Rm 5 1 2 70) s m #[(.ref a1)] below meth c s₁ [] 0 0 := Stand.of_body Bd
 have e0 : s₁.heap = h0 := by rw [← hh, Bd.state]; rfl
 have N0 := Fr.nil n0
 have hn0 : n0 ≤ h0.size := O0.1 ▸ O0.2.1
 have pre0 : ∀ t, SS p e below s₁ m 0 #[vR a1, .unset] [] t → SE p e below s₁ m #[(.ref a1)] 2 t := fun t k => castTop (ef_rmLo2 m a1) k
 have lt_a1 : @LT.lt Nat _ a1 h0.size := Vo.lt
 obtain ⟨cl101, Ar101, q101, S101, Nn101, H101, G101⟩ := id Vo
 obtain ⟨T102, h102, X102, e102, E102, A102, D102, -, st102⟩ := newO X0 hx hZ hown (tw hw 309 rfl) (tw hw 310 rfl) (tw hw 311 rfl) e0 (g := (mkF m 45 #[vR a1, .unset] [])) rfl (hb hby d52_45) (by decide) (by decide)
 obtain ⟨b102, g102⟩ : ∃ z, z = h0.size := ⟨_, rfl⟩
 rw [← g102] at A102 D102 st102
 have lt102 : @LT.lt Nat _ b102 h102.size := A102.lt
 have K102 : Keep h0 h102 [] := (Keep.refl _ _).ext E102
 have sz1_K102 := K102.1
 have F102_e0 : Fld Z h102 b102 "java/util/ImmutableCollections$List12" "e0" "Ljava/lang/Object;" .null := D102 (Or.inr (tw hw 335 rfl)) (ty := (.object "java/lang/Object")) (by decide)
 have F102_e1 : Fld Z h102 b102 "java/util/ImmutableCollections$List12" "e1" "Ljava/lang/Object;" .null := D102 (Or.inr (tw hw 337 rfl)) (ty := (.object "java/lang/Object")) (by decide)
 have C103 := Vo.keep K102 nin0
 obtain ⟨cl104, Ar104, q104, S104, Nn104, H104, G104⟩ := id C103
 have hat104 : cl104.slots[((0 : Int32)).toNatClampNeg]? = some (.ref f0) := (Has.at H104 (inb_of S104 ⟨by decide, by decide⟩) rfl)
 obtain ⟨cl105, Ar105, q105, S105, Nn105, H105, G105⟩ := id C103
 have hat105 : cl105.slots[((1 : Int32)).toNatClampNeg]? = some (.ref f1) := (Has.at H105 (inb_of S105 ⟨by decide, by decide⟩) rfl)
 have O107 : Old Z n0 h102 := O0.keep K102 all0
 obtain ⟨_, _, ⟨T106, L106, k106, n106⟩, -, X106, ⟨Lc106, hQ106, l106, y106, z106⟩, st106⟩ := X102.specialBack hx (y := mN47) rfl hown (mvT hZ (tw hw 312 rfl)) (mvT hZ (tw hw 313 rfl)) (mvT hZ (tw hw 315 rfl)) (by decide) (backOf (W := 1) (rmI12 l Z a0 hw [] b102 f0 f1  h102 n0 O107 (by omega : @LE.le Nat _ n0 b102) A102 F102_e0 F102_e1) hZ (tw hw 315 rfl) (tw hw 311 rfl) (by decide) (by decide)) (g := (mkF m 55 #[vR a1, .unset] [(.ref f1), (.ref f0), (.ref b102), (.ref b102)])) rfl (by rw [hml]; rfl) (Steps.refl _) (a := b102) (argsL := [(.ref f0), (.ref f1)]) (rest := [(.ref b102)]) (lenOf pd_38 rfl) rfl (wL _) (hb hby d52_55) (fun _ _ => ⟨rfl, e102, (by decide : 1 + 0 ≤ _), (by decide : 2 + 0 ≤ _)⟩)
 dsimp only [Pt.U, Pt.locs, Pt.cells, Pt.slots] at X106 l106 y106 z106 st106 hQ106
 rw [l106] at X106
 subst y106 z106
 obtain ⟨rfl, N106q, K106, Et106, Ta106, Tb106⟩ := hQ106
 have sz2_K106 := K106.1
 have N106 := Fr.app N0 N106q
 have KC108 : Keep h0 h102 [] := (Keep.refl h0 []).trans K102 (all0)
 have KC109 : Keep h0 T106.heap [] := KC108.trans K106 (allS (Or.inr (by omega)) (all0))
 obtain ⟨fs, hr, hrun, hended, hW, hsame⟩ := X106.leave (v := some (.ref b102)) (nvr Bd.returns)
 refine ⟨_, _, pre0 _ ?_, hrun, hended, _, _, rfl, ?_, ⟨_, rfl⟩, hW, hsame.mono (by decide) (by decide)⟩
 ·skip
  show SS p e below s₁ m 0 #[vR a1, .unset] [] _
  refine XS.aloadN X0.here hx rfl (hb hby d52_0) rfl rfl ?_
  show SS p e below s₁ m 1 #[vR a1, .unset] [(.ref a1)] _
  refine X0.arraylength hx (by rw [e0]; exact Ar101.1) (State.isArrayOf_alike hZ.alike Ar101.2.1) (g := (mkF m 1 #[vR a1, .unset] [(.ref a1)])) rfl rfl (hb hby d52_1) _ ?_
  rw [len_of S101 Nn101]
  show SS p e below s₁ m 2 #[vR a1, .unset] [(.int 2)] _
  refine XS.tswIn X0.here hx rfl (pc0 := 2) (pc' := 45) rfl (hb hby d52_2) rfl (by decide) rfl (by decide) (by decide) ?_
  show SS p e below s₁ m 45 #[vR a1, .unset] [] _
  refine st102 _ ?_
  refine XS.dup X102.here hx rfl (hb hby d52_48) rfl rfl ?_
  refine XS.aloadN X102.here hx rfl (hb hby d52_49) rfl rfl ?_
  refine XS.iconst X102.here hx rfl (hb hby d52_50) ?_
  show SS p e below T102 m 51 #[vR a1, .unset] [(.int 0), (.ref a1), (.ref b102), (.ref b102)] _
  refine X102.aaload hx (j := (0 : Int32)) (v := (.ref f0)) (by rw [e102]; exact Ar104.1) (State.isArrayOf_alike hZ.alike Ar104.2.1) rfl Ar104.2.2 (inb_of S104 ⟨by decide, by decide⟩) hat104 (g := (mkF m 51 #[vR a1, .unset] [(.int 0), (.ref a1), (.ref b102), (.ref b102)])) rfl rfl (hb hby d52_51) _ ?_
  refine XS.aloadN X102.here hx rfl (hb hby d52_52) rfl rfl ?_
  refine XS.iconst X102.here hx rfl (hb hby d52_53) ?_
  show SS p e below T102 m 54 #[vR a1, .unset] [(.int 1), (.ref a1), (.ref f0), (.ref b102), (.ref b102)] _
  refine X102.aaload hx (j := (1 : Int32)) (v := (.ref f1)) (by rw [e102]; exact Ar105.1) (State.isArrayOf_alike hZ.alike Ar105.2.1) rfl Ar105.2.2 (inb_of S105 ⟨by decide, by decide⟩) hat105 (g := (mkF m 54 #[vR a1, .unset] [(.int 1), (.ref a1), (.ref f0), (.ref b102), (.ref b102)])) rfl rfl (hb hby d52_54) _ ?_
  show SS p e below T102 m 55 #[vR a1, .unset] [(.ref f1), (.ref f0), (.ref b102), (.ref b102)] _
  refine st106.trans ?_
  show SS p e below T106 m 58 #[vR a1, .unset] [(.ref b102)] _
  exact X106.areturnOut hx rfl Bd.returns rfl (hb hby d52_58) hr
 ·show Q_rmLo2 Z a1 f0 f1 kb h0 n0 _ T106.heap _
  exact ⟨_, rfl, N106, KC109, (by omega), Et106, Ta106, Tb106⟩
theorem d19_44 : DK cD31 44 (.aload_n 0) 1 := by decide +kernel
theorem d19_45 : DK cD31 45 (.invokeinterface 30 1) 5 := by decide +kernel
theorem d19_50 : DK cD31 50 (.invokestatic 34) 3 := by decide +kernel
theorem d19_53 : DK cD31 53 (.areturn) 1 := by decide +kernel
theorem pd_37 : parseMethodDescriptor "([Ljava/lang/Object;)Ljava/util/List;" = some ⟨[(.array (.object "java/lang/Object"))], some (.object "java/util/List")⟩ := by decide +kernel
theorem ef_rmLc2 (m : MethodId) (y0 : Addr) : entryFrame m #[(.ref y0)] 2 = (mkF m 0 #[vR y0, .unset] []) := by first | (simp [entryFrame, mkF, argsToLocals, Value.category]; done) | rfl
def Q_rmLc2 (Z : State) (a1 : Addr) (d f0 f1 mr : Addr) (kd : ClassId) (h0 : Heap) (n0 : Nat) (v : Option Value) (h : Heap) (L : List Loc) : Prop := ∃ x : Addr, v = some (.ref x) ∧ Fr n0 L ∧ Keep h0 h [] ∧ h0.size ≤ x ∧ Exa Z h x "java/util/ImmutableCollections$List12" ∧ Fld Z h x "java/util/ImmutableCollections$List12" "e0" "Ljava/lang/Object;" (.ref f0) ∧ Fld Z h x "java/util/ImmutableCollections$List12" "e1" "Ljava/lang/Object;" (.ref f1)
theorem rmLc2 (l : Launch) (Z : State) (a0 : Array Value) (hw : HW a0 Z) (ws : List Jvm.Cond) (a1 : Addr) (d f0 f1 mr : Addr) (kd : ClassId) (h0 : Heap) (n0 : Nat) (O0 : Old Z n0 h0) (MR : Mrr Z "[Ljava/lang/Object;" mr) (El : Exa Z h0 a1 "java/util/ArrayList") (Ld : Fld Z h0 a1 "java/util/ArrayList" "elementData" "[Ljava/lang/Object;" (.ref d)) (Ln : Fld Z h0 a1 "java/util/ArrayList" "size" "I" (.int 2)) (Ea : Exa Z h0 d "[Ljava/lang/Object;") (Va : Arv Z h0 d kd (.object "java/lang/Object") (10 : Int32) [(.ref f0), (.ref f1), .null, .null, .null, .null, .null, .null, .null, .null] .null) (Oa : Ovr Z kd "java/lang/Object") (E0 : Exa Z h0 f0 "java/lang/String") (E1 : Exa Z h0 f1 "java/lang/String") :
  MF l mN32 jdk_56_method_3_code 2 (some (.object "java/util/List")) ws (Rm 6 2 4 110) Z #[(.ref a1)] h0 (Q_rmLc2 Z a1 d f0 f1 mr kd h0 n0) := by
 refine MetFree.of_bodySF (plainFor_of_name pn_19) hisR ?_
 intro p e s m args below meth c s₁ Bd hml0 hP hK
 obtain ⟨rfl, hZ, hh⟩ := hP
 have hx := Bd.exec
 have hby := Bd.bytes
 have hml : c.maxLocals = 2 := hml0
 have hown : s.vm.findClass "java/util/ImmutableCollections" = some m.cls := findClass_of_methodNamed Bd.named
 have X0 : Stand p l e (Rm 6 2 4 110) s m #[(.ref a1)] below meth c s₁ [] 0 0 := Stand.of_body Bd
 have e0 : s₁.heap = h0 := by rw [← hh, Bd.state]; rfl
 have N0 := Fr.nil n0
 have hn0 : n0 ≤ h0.size := O0.1 ▸ O0.2.1
 have pre0 : ∀ t, SS p e below s₁ m 0 #[vR a1, .unset] [] t → SE p e below s₁ m #[(.ref a1)] 2 t := fun t k => castTop (ef_rmLc2 m a1) k
 have lt_a1 : @LT.lt Nat _ a1 h0.size := El.lt
 have lt_d : @LT.lt Nat _ d h0.size := Va.lt
 have lt_f0 : @LT.lt Nat _ f0 h0.size := E0.lt
 have lt_f1 : @LT.lt Nat _ f1 h0.size := E1.lt
 obtain ⟨T101, X101, e101, st101⟩ := instNo X0 hx hZ hown (tw hw 109 rfl) e0 El (own_noinst (tw hw 110 rfl) (tw hw 111 rfl) (tw hw 112 rfl) (tw hw 113 rfl) (tw hw 338 rfl) rfl (by decide) (by decide) (by decide) (by decide)) (g := (mkF m 1 #[vR a1, .unset] [(.ref a1)])) rfl rfl (hb hby d19_1)
 obtain ⟨T102, X102, e102, st102⟩ := instNo X101 hx hZ hown (tw hw 114 rfl) e101 El (own_noinst (tw hw 110 rfl) (tw hw 111 rfl) (tw hw 112 rfl) (tw hw 113 rfl) (tw hw 127 rfl) rfl (by decide) (by decide) (by decide) (by decide)) (g := (mkF m 8 #[vR a1, .unset] [(.ref a1)])) rfl rfl (hb hby d19_8)
 obtain ⟨cq103, kq103, q103a, q103b, q103c⟩ := isOf hZ e102 El
 obtain ⟨_, _, ⟨T103, L103, k103, n103⟩, -, X103, ⟨Lc103, hQ103, l103, y103, z103⟩, st103⟩ := X102.interfaceBack hx (xi := mN33) (y := mN28) hown (mvT hZ (tw hw 115 rfl)) (mvT hZ (tw hw 116 rfl)) (mvT hZ (tw hw 117 rfl)) (mvT hZ (tw hw 118 rfl)) (mvT hZ (tw hw 89 rfl)) (mvT hZ (tw hw 90 rfl)) (mvT hZ (tw hw 91 rfl)) (mvT hZ (tw hw 119 rfl)) (by decide) (backOf (W := 0) (rmAie2 l Z a0 hw [] a1  h0 n0 O0 El Ln) hZ (tw hw 93 rfl) (tw hw 56 rfl) (by decide) (by decide)) q103a q103b q103c (g := (mkF m 32 #[vR a1, .unset] [(.ref a1)])) rfl (by rw [hml]; rfl) (Steps.refl _) (argsL := []) (rest := []) (lenOf pd_10 rfl) rfl (wL _) (hb hby d19_32) (fun _ _ => ⟨rfl, e102, (by decide : 0 + 0 ≤ _), (by decide : 0 + 0 ≤ _)⟩)
 dsimp only [Pt.U, Pt.locs, Pt.cells, Pt.slots] at X103 l103 y103 z103 st103 hQ103
 rw [l103] at X103
 subst y103 z103
 obtain ⟨rfl, N103q, H103⟩ := hQ103
 have N103 := Fr.app N0 N103q
 obtain ⟨cq104, kq104, q104a, q104b, q104c⟩ := isOf hZ H103 El
 obtain ⟨_, _, ⟨T104, L104, k104, n104⟩, -, X104, ⟨Lc104, hQ104, l104, y104, z104⟩, st104⟩ := X103.interfaceBack hx (xi := mN49) (y := mN45) hown (mvT hZ (tw hw 284 rfl)) (mvT hZ (tw hw 285 rfl)) (mvT hZ (tw hw 286 rfl)) (mvT hZ (tw hw 287 rfl)) (mvT hZ (tw hw 288 rfl)) (mvT hZ (tw hw 289 rfl)) (mvT hZ (tw hw 290 rfl)) (mvT hZ (tw hw 119 rfl)) (by decide) (backOf (W := 0) (rmTa l Z a0 hw [] a1 d f0 f1 mr kd h0 n0 O0 MR El Ld Ln Ea Va Oa E0 E1) hZ (tw hw 291 rfl) (tw hw 56 rfl) (by decide) (by decide)) q104a q104b q104c (g := (mkF m 45 #[vR a1, .unset] [(.ref a1)])) rfl (by rw [hml]; rfl) (Steps.refl _) (argsL := []) (rest := []) (lenOf pd_32 rfl) rfl (wL _) (hb hby d19_45) (fun _ _ => ⟨rfl, H103, (by decide : 0 + 1 ≤ _), (by decide : 0 + 2 ≤ _)⟩)
 dsimp only [Pt.U, Pt.locs, Pt.cells, Pt.slots] at X104 l104 y104 z104 st104 hQ104
 rw [l104] at X104
 subst y104 z104
 obtain ⟨b104, kb104, rfl, N104q, K104, gb104, V104⟩ := hQ104
 have lt104 : @LT.lt Nat _ b104 T104.heap.size := V104.lt
 have sz1_K104 := K104.1
 have N104 := Fr.app N103 N104q
 have O106 : Old Z n0 T104.heap := O0.keep K104 all0
 obtain ⟨_, _, ⟨T105, L105, k105, n105⟩, -, X105, ⟨Lc105, hQ105, l105, y105, z105⟩, st105⟩ := Jvm.LawKit.callS X104 hx (y := mN48) hown (mvT hZ (tw hw 306 rfl)) (mvT hZ (tw hw 307 rfl)) (mvT hZ (tw hw 103 rfl)) (mvT hZ (tw hw 308 rfl)) (by decide) (backOf (W := 0) (rmLo2 l Z a0 hw [] b104 f0 f1 kb104 T104.heap n0 O106 V104) hZ (tw hw 308 rfl) (tw hw 103 rfl) (by decide) (by decide)) (g := (mkF m 50 #[vR a1, .unset] [(.ref b104)])) rfl (by rw [hml]; rfl) (argsL := [(.ref b104)]) (rest := []) (lenOf pd_37 rfl) rfl (wL _) (hb hby d19_50) (fun _ _ => ⟨rfl, rfl, (by decide : 1 + 1 ≤ _), (by decide : 2 + 2 ≤ _)⟩)
 dsimp only [Pt.U, Pt.locs, Pt.cells, Pt.slots] at X105 l105 y105 z105 st105 hQ105
 rw [l105] at X105
 subst y105 z105
 obtain ⟨x105, rfl, N105q, K105, gx105, Et105, Ta105, Tb105⟩ := hQ105
 have ltx105 : @LT.lt Nat _ x105 T105.heap.size := Et105.lt
 have sz2_K105 := K105.1
 have N105 := Fr.app N104 N105q
 have KC107 : Keep h0 T104.heap [] := (Keep.refl h0 []).trans K104 (all0)
 have KC108 : Keep h0 T105.heap [] := KC107.trans K105 (all0)
 obtain ⟨fs, hr, hrun, hended, hW, hsame⟩ := X105.leave (v := some (.ref x105)) (nvr Bd.returns)
 refine ⟨_, _, pre0 _ ?_, hrun, hended, _, _, rfl, ?_, ⟨_, rfl⟩, hW, hsame.mono (by decide) (by decide)⟩
 ·skip
  show SS p e below s₁ m 0 #[vR a1, .unset] [] _
  refine XS.aloadN X0.here hx rfl (hb hby d19_0) rfl rfl ?_
  show SS p e below s₁ m 1 #[vR a1, .unset] [(.ref a1)] _
  refine st101 _ ?_
  refine XS.ifNo X101.here hx rfl (hb hby d19_4) rfl ((if0 _ _).trans (teq (by decide : (0 : Int32) = (0 : Int32))).2) ?_
  refine XS.aloadN X101.here hx rfl (hb hby d19_7) rfl rfl ?_
  show SS p e below T101 m 8 #[vR a1, .unset] [(.ref a1)] _
  refine st102 _ ?_
  refine XS.ifYes X102.here hx rfl (pc0 := 11) (pc' := 31) rfl (hb hby d19_11) rfl ((if0 _ _).trans (teq (by decide : (0 : Int32) = (0 : Int32))).1) (by decide) (by decide) ?_
  refine XS.aloadN X102.here hx rfl (hb hby d19_31) rfl rfl ?_
  show SS p e below T102 m 32 #[vR a1, .unset] [(.ref a1)] _
  refine st103.trans ?_
  refine XS.ifYes X103.here hx rfl (pc0 := 37) (pc' := 44) rfl (hb hby d19_37) rfl ((if0 _ _).trans (teq (by decide : (0 : Int32) = (0 : Int32))).1) (by decide) (by decide) ?_
  refine XS.aloadN X103.here hx rfl (hb hby d19_44) rfl rfl ?_
  show SS p e below T103 m 45 #[vR a1, .unset] [(.ref a1)] _
  refine st104.trans ?_
  show SS p e below T104 m 50 #[vR a1, .unset] [(.ref b104)] _
  refine st105 _ ?_
  show SS p e below T105 m 53 #[vR a1, .unset] [(.ref x105)] _
  exact X105.areturnOut hx rfl Bd.returns rfl (hb hby d19_53) hr
 ·show Q_rmLc2 Z a1 d f0 f1 mr kd h0 n0 _ T105.heap _
  exact ⟨_, rfl, N105, KC108, (by omega), Et105, Ta105, Tb105⟩
theorem ef_rmCo2 (m : MethodId) (y0 : Addr) : entryFrame m #[(.ref y0)] 1 = (mkF m 0 #[vR y0] []) := by first | (simp [entryFrame, mkF, argsToLocals, Value.category]; done) | rfl
def Q_rmCo2 (Z : State) (a1 : Addr) (d f0 f1 mr : Addr) (kd : ClassId) (h0 : Heap) (n0 : Nat) (v : Option Value) (h : Heap) (L : List Loc) : Prop := ∃ x : Addr, v = some (.ref x) ∧ Fr n0 L ∧ Keep h0 h [] ∧ h0.size ≤ x ∧ Exa Z h x "java/util/ImmutableCollections$List12" ∧ Fld Z h x "java/util/ImmutableCollections$List12" "e0" "Ljava/lang/Object;" (.ref f0) ∧ Fld Z h x "java/util/ImmutableCollections$List12" "e1" "Ljava/lang/Object;" (.ref f1)
theorem rmCo2 (l : Launch) (Z : State) (a0 : Array Value) (hw : HW a0 Z) (ws : List Jvm.Cond) (a1 : Addr) (d f0 f1 mr : Addr) (kd : ClassId) (h0 : Heap) (n0 : Nat) (O0 : Old Z n0 h0) (MR : Mrr Z "[Ljava/lang/Object;" mr) (El : Exa Z h0 a1 "java/util/ArrayList") (Ld : Fld Z h0 a1 "java/util/ArrayList" "elementData" "[Ljava/lang/Object;" (.ref d)) (Ln : Fld Z h0 a1 "java/util/ArrayList" "size" "I" (.int 2)) (Ea : Exa Z h0 d "[Ljava/lang/Object;") (Va : Arv Z h0 d kd (.object "java/lang/Object") (10 : Int32) [(.ref f0), (.ref f1), .null, .null, .null, .null, .null, .null, .null, .null] .null) (Oa : Ovr Z kd "java/lang/Object") (E0 : Exa Z h0 f0 "java/lang/String") (E1 : Exa Z h0 f1 "java/lang/String") :
  MF l mN34 jdk_40_method_48_code 1 (some (.object "java/util/List")) ws (Rm 7 2 4 130) Z #[(.ref a1)] h0 (Q_rmCo2 Z a1 d f0 f1 mr kd h0 n0) := by
 refine MetFree.of_bodySF (plainFor_of_name pn_18) hisR ?_
 intro p e s m args below meth c s₁ Bd hml0 hP hK
 obtain ⟨rfl, hZ, hh⟩ := hP
 have hx := Bd.exec
 have hby := Bd.bytes
 have hml : c.maxLocals = 1 := hml0
 have hown : s.vm.findClass "java/util/List" = some m.cls := findClass_of_methodNamed Bd.named
 have X0 : Stand p l e (Rm 7 2 4 130) s m #[(.ref a1)] below meth c s₁ [] 0 0 := Stand.of_body Bd
 have e0 : s₁.heap = h0 := by rw [← hh, Bd.state]; rfl
 have N0 := Fr.nil n0
 have hn0 : n0 ≤ h0.size := O0.1 ▸ O0.2.1
 have pre0 : ∀ t, SS p e below s₁ m 0 #[vR a1] [] t → SE p e below s₁ m #[(.ref a1)] 1 t := fun t k => castTop (ef_rmCo2 m a1) k
 have lt_a1 : @LT.lt Nat _ a1 h0.size := El.lt
 have lt_d : @LT.lt Nat _ d h0.size := Va.lt
 have lt_f0 : @LT.lt Nat _ f0 h0.size := E0.lt
 have lt_f1 : @LT.lt Nat _ f1 h0.size := E1.lt
 obtain ⟨_, _, ⟨T101, L101, k101, n101⟩, -, X101, ⟨Lc101, hQ101, l101, y101, z101⟩, st101⟩ := Jvm.LawKit.callS X0 hx (y := mN32) hown (mvT hZ (tw hw 105 rfl)) (mvT hZ (tw hw 106 rfl)) (mvT hZ (tw hw 107 rfl)) (mvT hZ (tw hw 108 rfl)) (by decide) (backOf (W := 0) (rmLc2 l Z a0 hw [] a1 d f0 f1 mr kd h0 n0 O0 MR El Ld Ln Ea Va Oa E0 E1) hZ (tw hw 108 rfl) (tw hw 107 rfl) (by decide) (by decide)) (g := (mkF m 1 #[vR a1] [(.ref a1)])) rfl (by rw [hml]; rfl) (argsL := [(.ref a1)]) (rest := []) (lenOf pd_12 rfl) rfl (wL _) (hb hby d18_1) (fun _ _ => ⟨rfl, e0, (by decide : 0 + 2 ≤ _), (by decide : 0 + 4 ≤ _)⟩)
 dsimp only [Pt.U, Pt.locs, Pt.cells, Pt.slots] at X101 l101 y101 z101 st101 hQ101
 rw [l101] at X101
 subst y101 z101
 obtain ⟨x101, rfl, N101q, K101, gx101, Et101, Ta101, Tb101⟩ := hQ101
 have ltx101 : @LT.lt Nat _ x101 T101.heap.size := Et101.lt
 have sz1_K101 := K101.1
 have N101 := Fr.app N0 N101q
 have KC102 : Keep h0 T101.heap [] := (Keep.refl h0 []).trans K101 (all0)
 obtain ⟨fs, hr, hrun, hended, hW, hsame⟩ := X101.leave (v := some (.ref x101)) (nvr Bd.returns)
 refine ⟨_, _, pre0 _ ?_, hrun, hended, _, _, rfl, ?_, ⟨_, rfl⟩, hW, hsame.mono (by decide) (by decide)⟩
 ·skip
  show SS p e below s₁ m 0 #[vR a1] [] _
  refine XS.aloadN X0.here hx rfl (hb hby d18_0) rfl rfl ?_
  show SS p e below s₁ m 1 #[vR a1] [(.ref a1)] _
  refine st101 _ ?_
  show SS p e below T101 m 4 #[vR a1] [(.ref x101)] _
  exact X101.areturnOut hx rfl Bd.returns rfl (hb hby d18_4) hr
 ·show Q_rmCo2 Z a1 d f0 f1 mr kd h0 n0 _ T101.heap _
  exact ⟨_, rfl, N101, KC102, (by omega), Et101, Ta101, Tb101⟩
theorem ef_rmLi2 (m : MethodId) (y0 : Addr) : entryFrame m #[(.ref y0)] 1 = (mkF m 0 #[vR y0] []) := by first | (simp [entryFrame, mkF, argsToLocals, Value.category]; done) | rfl
def Q_rmLi2 (Z : State) (a1 : Addr) (x d f0 f1 mr : Addr) (kd : ClassId) (h0 : Heap) (n0 : Nat) (v : Option Value) (h : Heap) (L : List Loc) : Prop := ∃ x : Addr, v = some (.ref x) ∧ Fr n0 L ∧ Keep h0 h [] ∧ h0.size ≤ x ∧ Exa Z h x "java/util/ImmutableCollections$List12" ∧ Fld Z h x "java/util/ImmutableCollections$List12" "e0" "Ljava/lang/Object;" (.ref f0) ∧ Fld Z h x "java/util/ImmutableCollections$List12" "e1" "Ljava/lang/Object;" (.ref f1)
theorem rmLi2 (l : Launch) (Z : State) (a0 : Array Value) (hw : HW a0 Z) (ws : List Jvm.Cond) (a1 : Addr) (x d f0 f1 mr : Addr) (kd : ClassId) (h0 : Heap) (n0 : Nat) (O0 : Old Z n0 h0) (MR : Mrr Z "[Ljava/lang/Object;" mr) (Em : Exa Z h0 a1 "com/example/nroute/nroute/route/Mistakes") (Ml : Fld Z h0 a1 "com/example/nroute/nroute/route/Mistakes" "lines" "Ljava/util/List;" (.ref x)) (El : Exa Z h0 x "java/util/ArrayList") (Ld : Fld Z h0 x "java/util/ArrayList" "elementData" "[Ljava/lang/Object;" (.ref d)) (Ln : Fld Z h0 x "java/util/ArrayList" "size" "I" (.int 2)) (Ea : Exa Z h0 d "[Ljava/lang/Object;") (Va : Arv Z h0 d kd (.object "java/lang/Object") (10 : Int32) [(.ref f0), (.ref f1), .null, .null, .null, .null, .null, .null, .null, .null] .null) (Oa : Ovr Z kd "java/lang/Object") (E0 : Exa Z h0 f0 "java/lang/String") (E1 : Exa Z h0 f1 "java/lang/String") :
  MF l mN35 prog_26_method_4_code 1 (some (.object "java/util/List")) ws (Rm 8 2 4 150) Z #[(.ref a1)] h0 (Q_rmLi2 Z a1 x d f0 f1 mr kd h0 n0) := by
 refine MetFree.of_bodySF (plainFor_of_name pn_11) hisR ?_
 intro p e s m args below meth c s₁ Bd hml0 hP hK
 obtain ⟨rfl, hZ, hh⟩ := hP
 have hx := Bd.exec
 have hby := Bd.bytes
 have hml : c.maxLocals = 1 := hml0
 have hown : s.vm.findClass "com/example/nroute/nroute/route/Mistakes" = some m.cls := findClass_of_methodNamed Bd.named
 have X0 : Stand p l e (Rm 8 2 4 150) s m #[(.ref a1)] below meth c s₁ [] 0 0 := Stand.of_body Bd
 have e0 : s₁.heap = h0 := by rw [← hh, Bd.state]; rfl
 have N0 := Fr.nil n0
 have hn0 : n0 ≤ h0.size := O0.1 ▸ O0.2.1
 have pre0 : ∀ t, SS p e below s₁ m 0 #[vR a1] [] t → SE p e below s₁ m #[(.ref a1)] 1 t := fun t k => castTop (ef_rmLi2 m a1) k
 have lt_x : @LT.lt Nat _ x h0.size := El.lt
 have lt_d : @LT.lt Nat _ d h0.size := Va.lt
 have lt_f0 : @LT.lt Nat _ f0 h0.size := E0.lt
 have lt_f1 : @LT.lt Nat _ f1 h0.size := E1.lt
 obtain ⟨T101, X101, e101, st101⟩ := getF X0 hx hZ hown (host := "") (Or.inl (tw hw 78 rfl)) Via.refl e0 Ml (g := (mkF m 1 #[vR a1] [(.ref a1)])) rfl rfl (hb hby d17_1)
 obtain ⟨_, _, ⟨T102, L102, k102, n102⟩, -, X102, ⟨Lc102, hQ102, l102, y102, z102⟩, st102⟩ := Jvm.LawKit.callS X101 hx (y := mN34) hown (mvT hZ (tw hw 101 rfl)) (mvT hZ (tw hw 102 rfl)) (mvT hZ (tw hw 103 rfl)) (mvT hZ (tw hw 104 rfl)) (by decide) (backOf (W := 0) (rmCo2 l Z a0 hw [] x d f0 f1 mr kd h0 n0 O0 MR El Ld Ln Ea Va Oa E0 E1) hZ (tw hw 104 rfl) (tw hw 103 rfl) (by decide) (by decide)) (g := (mkF m 4 #[vR a1] [(.ref x)])) rfl (by rw [hml]; rfl) (argsL := [(.ref x)]) (rest := []) (lenOf pd_12 rfl) rfl (wL _) (hb hby d17_4) (fun _ _ => ⟨rfl, e101, (by decide : 0 + 2 ≤ _), (by decide : 0 + 4 ≤ _)⟩)
 dsimp only [Pt.U, Pt.locs, Pt.cells, Pt.slots] at X102 l102 y102 z102 st102 hQ102
 rw [l102] at X102
 subst y102 z102
 obtain ⟨x102, rfl, N102q, K102, gx102, Et102, Ta102, Tb102⟩ := hQ102
 have ltx102 : @LT.lt Nat _ x102 T102.heap.size := Et102.lt
 have sz1_K102 := K102.1
 have N102 := Fr.app N0 N102q
 have KC103 : Keep h0 T102.heap [] := (Keep.refl h0 []).trans K102 (all0)
 obtain ⟨fs, hr, hrun, hended, hW, hsame⟩ := X102.leave (v := some (.ref x102)) (nvr Bd.returns)
 refine ⟨_, _, pre0 _ ?_, hrun, hended, _, _, rfl, ?_, ⟨_, rfl⟩, hW, hsame.mono (by decide) (by decide)⟩
 ·skip
  show SS p e below s₁ m 0 #[vR a1] [] _
  refine XS.aloadN X0.here hx rfl (hb hby d17_0) rfl rfl ?_
  show SS p e below s₁ m 1 #[vR a1] [(.ref a1)] _
  refine st101 _ ?_
  show SS p e below T101 m 4 #[vR a1] [(.ref x)] _
  refine st102 _ ?_
  show SS p e below T102 m 7 #[vR a1] [(.ref x102)] _
  exact X102.areturnOut hx rfl Bd.returns rfl (hb hby d17_7) hr
 ·show Q_rmLi2 Z a1 x d f0 f1 mr kd h0 n0 _ T102.heap _
  exact ⟨_, rfl, N102, KC103, (by omega), Et102, Ta102, Tb102⟩
theorem d57_0 : DK cD46 0 (.aload_n 0) 1 := by decide +kernel
theorem d57_1 : DK cD46 1 (.getfield 24) 3 := by decide +kernel
theorem d57_4 : DK cD46 4 (.getstatic 19) 3 := by decide +kernel
theorem d57_7 : DK cD46 7 (.if_acmp .eq 7) 3 := by decide +kernel
theorem d57_10 : DK cD46 10 (.iconst 2) 1 := by decide +kernel
theorem d57_11 : DK cD46 11 (.goto 4) 3 := by decide +kernel
theorem d57_15 : DK cD46 15 (.ireturn) 1 := by decide +kernel
theorem ef_rmSz2 (m : MethodId) (y0 : Addr) : entryFrame m #[(.ref y0)] 1 = (mkF m 0 #[vR y0] []) := by first | (simp [entryFrame, mkF, argsToLocals, Value.category]; done) | rfl
def Q_rmSz2 (Z : State) (a1 : Addr) (f0 f1 em : Addr) (h0 : Heap) (n0 : Nat) (v : Option Value) (h : Heap) (L : List Loc) : Prop := v = some (.int 2) ∧ Fr n0 L ∧ h = h0
theorem rmSz2 (l : Launch) (Z : State) (a0 : Array Value) (hw : HW a0 Z) (ws : List Jvm.Cond) (a1 : Addr) (f0 f1 em : Addr) (h0 : Heap) (n0 : Nat) (O0 : Old Z n0 h0) (S_EM : Sta Z Z.heap "java/util/ImmutableCollections" "EMPTY" "Ljava/lang/Object;" (.ref em)) (hem : @LT.lt Nat _ em n0) (g : n0 ≤ f1) (Et : Exa Z h0 a1 "java/util/ImmutableCollections$List12") (Ta : Fld Z h0 a1 "java/util/ImmutableCollections$List12" "e0" "Ljava/lang/Object;" (.ref f0)) (Tb : Fld Z h0 a1 "java/util/ImmutableCollections$List12" "e1" "Ljava/lang/Object;" (.ref f1)) :
  MF l mN50 jdk_44_method_3_code 1 (some .int) ws (Rm 0 0 0 0) Z #[(.ref a1)] h0 (Q_rmSz2 Z a1 f0 f1 em h0 n0) := by
 refine MetFree.of_bodySF (plainFor_of_name pn_53) hisR ?_
 intro p e s m args below meth c s₁ Bd hml0 hP hK
 obtain ⟨rfl, hZ, hh⟩ := hP
 have hx := Bd.exec
 have hby := Bd.bytes
 have hml : c.maxLocals = 1 := hml0
 have hown : s.vm.findClass "java/util/ImmutableCollections$List12" = some m.cls := findClass_of_methodNamed Bd.named
 have X0 : Stand p l e (Rm 0 0 0 0) s m #[(.ref a1)] below meth c s₁ [] 0 0 := Stand.of_body Bd
 have e0 : s₁.heap = h0 := by rw [← hh, Bd.state]; rfl
 have N0 := Fr.nil n0
 have hn0 : n0 ≤ h0.size := O0.1 ▸ O0.2.1
 have pre0 : ∀ t, SS p e below s₁ m 0 #[vR a1] [] t → SE p e below s₁ m #[(.ref a1)] 1 t := fun t k => castTop (ef_rmSz2 m a1) k
 obtain ⟨T101, X101, e101, st101⟩ := getF X0 hx hZ hown (host := "") (Or.inl (tw hw 336 rfl)) Via.refl e0 Tb (g := (mkF m 1 #[vR a1] [(.ref a1)])) rfl rfl (hb hby d57_1)
 obtain ⟨T102, X102, e102, st102⟩ := getS2 X101 hx hZ hown (Or.inr (tw hw 344 rfl)) Via.refl e101 (Sta.ext O0.2 S_EM) (g := (mkF m 4 #[vR a1] [(.ref f1)])) rfl (hb hby d57_4)
 obtain ⟨fs, hr, hrun, hended, hW, hsame⟩ := X102.leave (v := some (.int 2)) (nvr Bd.returns)
 refine ⟨_, _, pre0 _ ?_, hrun, hended, _, _, rfl, ?_, ⟨_, rfl⟩, hW, hsame.mono (by decide) (by decide)⟩
 ·skip
  show SS p e below s₁ m 0 #[vR a1] [] _
  refine XS.aloadN X0.here hx rfl (hb hby d57_0) rfl rfl ?_
  show SS p e below s₁ m 1 #[vR a1] [(.ref a1)] _
  refine st101 _ ?_
  show SS p e below T101 m 4 #[vR a1] [(.ref f1)] _
  refine st102 _ ?_
  show SS p e below T102 m 7 #[vR a1] [(.ref em), (.ref f1)] _
  refine Jvm.RoadKit.acmp (g := (mkF m 7 #[vR a1] [(.ref em), (.ref f1)])) X102 hx rfl rfl rfl (pc0 := 7) (pc' := 10) (same := false) rfl (hb hby d57_7) rfl (decide_eq_false fun q => (by omega : ¬ @Eq Nat f1 em) (Value.ref.inj q)) (by decide) (by decide) ?_
  refine XS.iconst X102.here hx rfl (hb hby d57_10) ?_
  refine XS.goto X102.here hx rfl (pc0 := 11) (pc' := 15) rfl (hb hby d57_11) (by decide) (by decide) ?_
  show SS p e below T102 m 15 #[vR a1] [(.int 2)] _
  exact retI X102 hx Bd.returns (hb hby d57_15) hr
 ·show Q_rmSz2 Z a1 f0 f1 em h0 n0 _ T102.heap _
  rw [e102]
  exact ⟨rfl, N0, rfl⟩
theorem d58_0 : DK cD47 0 (.iload_n 1) 1 := by decide +kernel
theorem d58_1 : DK cD47 1 (.ifCond .ne 8) 3 := by decide +kernel
theorem d58_4 : DK cD47 4 (.aload_n 0) 1 := by decide +kernel
theorem d58_5 : DK cD47 5 (.getfield 13) 3 := by decide +kernel
theorem d58_8 : DK cD47 8 (.areturn) 1 := by decide +kernel
theorem ef_rmGet0 (m : MethodId) (y0 : Addr) : entryFrame m #[(.ref y0), (.int 0)] 2 = (mkF m 0 #[vR y0, vI 0] []) := by first | (simp [entryFrame, mkF, argsToLocals, Value.category]; done) | rfl
def Q_rmGet0 (Z : State) (a1 : Addr) (f0 f1 em : Addr) (h0 : Heap) (n0 : Nat) (v : Option Value) (h : Heap) (L : List Loc) : Prop := v = some (.ref f0) ∧ Fr n0 L ∧ h = h0
theorem rmGet0 (l : Launch) (Z : State) (a0 : Array Value) (hw : HW a0 Z) (ws : List Jvm.Cond) (a1 : Addr) (f0 f1 em : Addr) (h0 : Heap) (n0 : Nat) (O0 : Old Z n0 h0) (S_EM : Sta Z Z.heap "java/util/ImmutableCollections" "EMPTY" "Ljava/lang/Object;" (.ref em)) (hem : @LT.lt Nat _ em n0) (g : n0 ≤ f1) (Et : Exa Z h0 a1 "java/util/ImmutableCollections$List12") (Ta : Fld Z h0 a1 "java/util/ImmutableCollections$List12" "e0" "Ljava/lang/Object;" (.ref f0)) (Tb : Fld Z h0 a1 "java/util/ImmutableCollections$List12" "e1" "Ljava/lang/Object;" (.ref f1)) :
  MF l mN51 jdk_44_method_5_code 2 (some (.object "java/lang/Object")) ws (Rm 0 0 0 0) Z #[(.ref a1), (.int 0)] h0 (Q_rmGet0 Z a1 f0 f1 em h0 n0) := by
 refine MetFree.of_bodySF (plainFor_of_name pn_53) hisR ?_
 intro p e s m args below meth c s₁ Bd hml0 hP hK
 obtain ⟨rfl, hZ, hh⟩ := hP
 have hx := Bd.exec
 have hby := Bd.bytes
 have hml : c.maxLocals = 2 := hml0
 have hown : s.vm.findClass "java/util/ImmutableCollections$List12" = some m.cls := findClass_of_methodNamed Bd.named
 have X0 : Stand p l e (Rm 0 0 0 0) s m #[(.ref a1), (.int 0)] below meth c s₁ [] 0 0 := Stand.of_body Bd
 have e0 : s₁.heap = h0 := by rw [← hh, Bd.state]; rfl
 have N0 := Fr.nil n0
 have hn0 : n0 ≤ h0.size := O0.1 ▸ O0.2.1
 have pre0 : ∀ t, SS p e below s₁ m 0 #[vR a1, vI 0] [] t → SE p e below s₁ m #[(.ref a1), (.int 0)] 2 t := fun t k => castTop (ef_rmGet0 m a1) k
 obtain ⟨T101, X101, e101, st101⟩ := getF X0 hx hZ hown (host := "") (Or.inl (tw hw 334 rfl)) Via.refl e0 Ta (g := (mkF m 5 #[vR a1, vI 0] [(.ref a1)])) rfl rfl (hb hby d58_5)
 obtain ⟨fs, hr, hrun, hended, hW, hsame⟩ := X101.leave (v := some (.ref f0)) (nvr Bd.returns)
 refine ⟨_, _, pre0 _ ?_, hrun, hended, _, _, rfl, ?_, ⟨_, rfl⟩, hW, hsame.mono (by decide) (by decide)⟩
 ·skip
  show SS p e below s₁ m 0 #[vR a1, vI 0] [] _
  refine XS.iloadN X0.here hx rfl (hb hby d58_0) rfl ?_
  refine XS.ifNo X0.here hx rfl (hb hby d58_1) rfl ((if0 _ _).trans (teq (by decide : (0 : Int32) = (0 : Int32))).2) ?_
  refine XS.aloadN X0.here hx rfl (hb hby d58_4) rfl rfl ?_
  show SS p e below s₁ m 5 #[vR a1, vI 0] [(.ref a1)] _
  refine st101 _ ?_
  show SS p e below T101 m 8 #[vR a1, vI 0] [(.ref f0)] _
  exact X101.areturnOut hx rfl Bd.returns rfl (hb hby d58_8) hr
 ·show Q_rmGet0 Z a1 f0 f1 em h0 n0 _ T101.heap _
  rw [e101]
  exact ⟨rfl, N0, rfl⟩
theorem d58_9 : DK cD47 9 (.iload_n 1) 1 := by decide +kernel
theorem d58_10 : DK cD47 10 (.iconst 1) 1 := by decide +kernel
theorem d58_11 : DK cD47 11 (.if_icmp .ne 18) 3 := by decide +kernel
theorem d58_14 : DK cD47 14 (.aload_n 0) 1 := by decide +kernel
theorem d58_15 : DK cD47 15 (.getfield 24) 3 := by decide +kernel
theorem d58_18 : DK cD47 18 (.getstatic 19) 3 := by decide +kernel
theorem d58_21 : DK cD47 21 (.if_acmp .eq 8) 3 := by decide +kernel
theorem d58_24 : DK cD47 24 (.aload_n 0) 1 := by decide +kernel
theorem d58_25 : DK cD47 25 (.getfield 24) 3 := by decide +kernel
theorem d58_28 : DK cD47 28 (.areturn) 1 := by decide +kernel
theorem ef_rmGet1 (m : MethodId) (y0 : Addr) : entryFrame m #[(.ref y0), (.int 1)] 2 = (mkF m 0 #[vR y0, vI 1] []) := by first | (simp [entryFrame, mkF, argsToLocals, Value.category]; done) | rfl
def Q_rmGet1 (Z : State) (a1 : Addr) (f0 f1 em : Addr) (h0 : Heap) (n0 : Nat) (v : Option Value) (h : Heap) (L : List Loc) : Prop := v = some (.ref f1) ∧ Fr n0 L ∧ h = h0
theorem rmGet1 (l : Launch) (Z : State) (a0 : Array Value) (hw : HW a0 Z) (ws : List Jvm.Cond) (a1 : Addr) (f0 f1 em : Addr) (h0 : Heap) (n0 : Nat) (O0 : Old Z n0 h0) (S_EM : Sta Z Z.heap "java/util/ImmutableCollections" "EMPTY" "Ljava/lang/Object;" (.ref em)) (hem : @LT.lt Nat _ em n0) (g : n0 ≤ f1) (Et : Exa Z h0 a1 "java/util/ImmutableCollections$List12") (Ta : Fld Z h0 a1 "java/util/ImmutableCollections$List12" "e0" "Ljava/lang/Object;" (.ref f0)) (Tb : Fld Z h0 a1 "java/util/ImmutableCollections$List12" "e1" "Ljava/lang/Object;" (.ref f1)) :
  MF l mN51 jdk_44_method_5_code 2 (some (.object "java/lang/Object")) ws (Rm 0 0 0 0) Z #[(.ref a1), (.int 1)] h0 (Q_rmGet1 Z a1 f0 f1 em h0 n0) := by
 refine MetFree.of_bodySF (plainFor_of_name pn_53) hisR ?_
 intro p e s m args below meth c s₁ Bd hml0 hP hK
 obtain ⟨rfl, hZ, hh⟩ := hP
 have hx := Bd.exec
 have hby := Bd.bytes
 have hml : c.maxLocals = 2 := hml0
 have hown : s.vm.findClass "java/util/ImmutableCollections$List12" = some m.cls := findClass_of_methodNamed Bd.named
 have X0 : Stand p l e (Rm 0 0 0 0) s m #[(.ref a1), (.int 1)] below meth c s₁ [] 0 0 := Stand.of_body Bd
 have e0 : s₁.heap = h0 := by rw [← hh, Bd.state]; rfl
 have N0 := Fr.nil n0
 have hn0 : n0 ≤ h0.size := O0.1 ▸ O0.2.1
 have pre0 : ∀ t, SS p e below s₁ m 0 #[vR a1, vI 1] [] t → SE p e below s₁ m #[(.ref a1), (.int 1)] 2 t := fun t k => castTop (ef_rmGet1 m a1) k
 obtain ⟨T101, X101, e101, st101⟩ := getF X0 hx hZ hown (host := "") (Or.inl (tw hw 336 rfl)) Via.refl e0 Tb (g := (mkF m 15 #[vR a1, vI 1] [(.ref a1)])) rfl rfl (hb hby d58_15)
 obtain ⟨T102, X102, e102, st102⟩ := getS2 X101 hx hZ hown (Or.inr (tw hw 344 rfl)) Via.refl e101 (Sta.ext O0.2 S_EM) (g := (mkF m 18 #[vR a1, vI 1] [(.ref f1)])) rfl (hb hby d58_18)
 obtain ⟨T103, X103, e103, st103⟩ := getF X102 hx hZ hown (host := "") (Or.inl (tw hw 336 rfl)) Via.refl e102 Tb (g := (mkF m 25 #[vR a1, vI 1] [(.ref a1)])) rfl rfl (hb hby d58_25)
 obtain ⟨fs, hr, hrun, hended, hW, hsame⟩ := X103.leave (v := some (.ref f1)) (nvr Bd.returns)
 refine ⟨_, _, pre0 _ ?_, hrun, hended, _, _, rfl, ?_, ⟨_, rfl⟩, hW, hsame.mono (by decide) (by decide)⟩
 ·skip
  show SS p e below s₁ m 0 #[vR a1, vI 1] [] _
  refine XS.iloadN X0.here hx rfl (hb hby d58_0) rfl ?_
  refine XS.ifYes X0.here hx rfl (pc0 := 1) (pc' := 9) rfl (hb hby d58_1) rfl ((if0 _ _).trans (feq (by decide : ¬ ((1 : Int32) = (0 : Int32)))).2) (by decide) (by decide) ?_
  refine XS.iloadN X0.here hx rfl (hb hby d58_9) rfl ?_
  refine XS.iconst X0.here hx rfl (hb hby d58_10) ?_
  refine XS.icmpNo X0.here hx rfl (hb hby d58_11) rfl (teq (by decide : (1 : Int32) = (1 : Int32))).2 ?_
  refine XS.aloadN X0.here hx rfl (hb hby d58_14) rfl rfl ?_
  show SS p e below s₁ m 15 #[vR a1, vI 1] [(.ref a1)] _
  refine st101 _ ?_
  show SS p e below T101 m 18 #[vR a1, vI 1] [(.ref f1)] _
  refine st102 _ ?_
  show SS p e below T102 m 21 #[vR a1, vI 1] [(.ref em), (.ref f1)] _
  refine Jvm.RoadKit.acmp (g := (mkF m 21 #[vR a1, vI 1] [(.ref em), (.ref f1)])) X102 hx rfl rfl rfl (pc0 := 21) (pc' := 24) (same := false) rfl (hb hby d58_21) rfl (decide_eq_false fun q => (by omega : ¬ @Eq Nat f1 em) (Value.ref.inj q)) (by decide) (by decide) ?_
  refine XS.aloadN X102.here hx rfl (hb hby d58_24) rfl rfl ?_
  show SS p e below T102 m 25 #[vR a1, vI 1] [(.ref a1)] _
  refine st103 _ ?_
  show SS p e below T103 m 28 #[vR a1, vI 1] [(.ref f1)] _
  exact X103.areturnOut hx rfl Bd.returns rfl (hb hby d58_28) hr
 ·show Q_rmGet1 Z a1 f0 f1 em h0 n0 _ T103.heap _
  rw [e103]
  exact ⟨rfl, N0, rfl⟩
theorem d8_0 : DK cD48 0 (.iload_n 0) 1 := by decide +kernel
theorem d8_1 : DK cD48 1 (.sipush 255) 3 := by decide +kernel
theorem d8_4 : DK cD48 4 (.if_icmp .gt 7) 3 := by decide +kernel
theorem d8_7 : DK cD48 7 (.iconst 1) 1 := by decide +kernel
theorem d8_8 : DK cD48 8 (.goto 4) 3 := by decide +kernel
theorem d8_12 : DK cD48 12 (.ireturn) 1 := by decide +kernel
theorem pn_8 : plainName "java/lang/StringLatin1" = true := by first | (simp [plainName, overriddenIn]; done) | decide +kernel
theorem ef_rm8 (m : MethodId) (y0 : Int32) : entryFrame m #[(.int y0)] 1 = (mkF m 0 #[vI y0] []) := by first | (simp [entryFrame, mkF, argsToLocals, Value.category]; done) | rfl
def Q_rm8 (Z : State) (p1 : Int32) (h0 : Heap) (n0 : Nat) (v : Option Value) (h : Heap) (L : List Loc) : Prop := v = some (.int 1) ∧ Fr n0 L ∧ h = h0
theorem rm8 (l : Launch) (Z : State) (a0 : Array Value) (hw : HW a0 Z) (ws : List Jvm.Cond) (p1 : Int32) (h0 : Heap) (n0 : Nat) (O0 : Old Z n0 h0) (hp : ¬ ((255 : Int32) < p1)) :
  MF l mN52 jdk_43_method_3_code 1 (some .boolean) ws (Rm 0 0 0 0) Z #[(.int p1)] h0 (Q_rm8 Z p1 h0 n0) := by
 refine MetFree.of_bodySF (plainFor_of_name pn_8) hisR ?_
 intro p e s m args below meth c s₁ Bd hml0 hP hK
 obtain ⟨rfl, hZ, hh⟩ := hP
 have hx := Bd.exec
 have hby := Bd.bytes
 have hml : c.maxLocals = 1 := hml0
 have hown : s.vm.findClass "java/lang/StringLatin1" = some m.cls := findClass_of_methodNamed Bd.named
 have X0 : Stand p l e (Rm 0 0 0 0) s m #[(.int p1)] below meth c s₁ [] 0 0 := Stand.of_body Bd
 have e0 : s₁.heap = h0 := by rw [← hh, Bd.state]; rfl
 have N0 := Fr.nil n0
 have hn0 : n0 ≤ h0.size := O0.1 ▸ O0.2.1
 have pre0 : ∀ t, SS p e below s₁ m 0 #[vI p1] [] t → SE p e below s₁ m #[(.int p1)] 1 t := fun t k => castTop (ef_rm8 m p1) k
 obtain ⟨fs, hr, hrun, hended, hW, hsame⟩ := X0.leave (v := some (.int 1)) (nvr Bd.returns)
 refine ⟨_, _, pre0 _ ?_, hrun, hended, _, _, rfl, ?_, ⟨_, rfl⟩, hW, hsame.mono (by decide) (by decide)⟩
 ·skip
  show SS p e below s₁ m 0 #[vI p1] [] _
  refine XS.iloadN X0.here hx rfl (hb hby d8_0) rfl ?_
  refine XS.sipush X0.here hx rfl (hb hby d8_1) ?_
  refine XS.icmpNo X0.here hx rfl (hb hby d8_4) rfl (flt (hp : ¬ ((255 : Int32) < p1))).2.2.1 ?_
  refine XS.iconst X0.here hx rfl (hb hby d8_7) ?_
  refine XS.goto X0.here hx rfl (pc0 := 8) (pc' := 12) rfl (hb hby d8_8) (by decide) (by decide) ?_
  show SS p e below s₁ m 12 #[vI p1] [(.int 1)] _
  exact retN X0 hx (t := .boolean) Bd.returns (by simp) (hb hby d8_12) hr
 ·show Q_rm8 Z p1 h0 n0 _ s₁.heap _
  rw [e0]
  exact ⟨rfl, N0, rfl⟩
theorem d9_0 : DK cD49 0 (.iconst 1) 1 := by decide +kernel
theorem d9_1 : DK cD49 1 (.newarray .byte) 2 := by decide +kernel
theorem d9_3 : DK cD49 3 (.dup) 1 := by decide +kernel
theorem d9_4 : DK cD49 4 (.iconst 0) 1 := by decide +kernel
theorem d9_5 : DK cD49 5 (.iload_n 0) 1 := by decide +kernel
theorem d9_6 : DK cD49 6 (.i2b) 1 := by decide +kernel
theorem d9_7 : DK cD49 7 (.bastore) 1 := by decide +kernel
theorem d9_8 : DK cD49 8 (.areturn) 1 := by decide +kernel
theorem ef_rm9 (m : MethodId) (y0 : Int32) : entryFrame m #[(.int y0)] 1 = (mkF m 0 #[vI y0] []) := by first | (simp [entryFrame, mkF, argsToLocals, Value.category]; done) | rfl
def Q_rm9 (Z : State) (p1 : Int32) (h0 : Heap) (n0 : Nat) (v : Option Value) (h : Heap) (L : List Loc) : Prop := ∃ (t : Addr) (kb : ClassId), v = some (.ref t) ∧ Fr n0 L ∧ Keep h0 h [] ∧ h0.size ≤ t ∧ Arv Z h t kb .byte (1 : Int32) [(.int (p1.toInt8.toInt32))] (.int 0)
theorem rm9 (l : Launch) (Z : State) (a0 : Array Value) (hw : HW a0 Z) (ws : List Jvm.Cond) (p1 : Int32) (h0 : Heap) (n0 : Nat) (O0 : Old Z n0 h0) :
  MF l mN53 jdk_43_method_46_code 1 (some (.array .byte)) ws (Rm 0 1 1 0) Z #[(.int p1)] h0 (Q_rm9 Z p1 h0 n0) := by
 refine MetFree.of_bodySF (plainFor_of_name pn_8) hisR ?_
 intro p e s m args below meth c s₁ Bd hml0 hP hK
 obtain ⟨rfl, hZ, hh⟩ := hP
 have hx := Bd.exec
 have hby := Bd.bytes
 have hml : c.maxLocals = 1 := hml0
 have hown : s.vm.findClass "java/lang/StringLatin1" = some m.cls := findClass_of_methodNamed Bd.named
 have X0 : Stand p l e (Rm 0 1 1 0) s m #[(.int p1)] below meth c s₁ [] 0 0 := Stand.of_body Bd
 have e0 : s₁.heap = h0 := by rw [← hh, Bd.state]; rfl
 have N0 := Fr.nil n0
 have hn0 : n0 ≤ h0.size := O0.1 ▸ O0.2.1
 have pre0 : ∀ t, SS p e below s₁ m 0 #[vI p1] [] t → SE p e below s₁ m #[(.int p1)] 1 t := fun t k => castTop (ef_rm9 m p1) k
 obtain ⟨T101, h101, k101, X101, e101, E101, A101, st101⟩ := newP X0 hx hZ (tw hw 19 rfl) e0 (g := (mkF m 1 #[vI p1] [(.int 1)])) rfl (hb hby d9_1) rfl (by decide) (cap := 1) (by decide) (by decide) (by decide) (by decide)
 obtain ⟨b101, g101⟩ : ∃ z, z = h0.size := ⟨_, rfl⟩
 rw [← g101] at A101 st101
 have V101 : Arv Z h101 b101 k101 .byte (1 : Int32) [(.int 0)] (.int 0) := (Arv.new A101 (by decide)).pad (pad_rep [] (.int 0) 1)
 have lt101 : @LT.lt Nat _ b101 h101.size := V101.lt
 have K101 : Keep h0 h101 [] := (Keep.refl _ _).ext E101
 have sz1_K101 := K101.1
 obtain ⟨cl102, Ar102, q102, S102, Nn102, H102, G102⟩ := id V101
 obtain ⟨T103, h103, X103, e103, W103, st103⟩ := stB X101 hx hZ e101 Ar102 (j := (0 : Int32)) (inb_of S102 ⟨by decide, by decide⟩) (g := (mkF m 7 #[vI p1] [(.int (p1.toInt8.toInt32)), (.int 0), (.ref b101), (.ref b101)])) rfl rfl (hb hby d9_7)
 rw [show nar .byte (p1.toInt8.toInt32) = (p1.toInt8.toInt32) from own_i8 _] at W103
 have V103 : Arv Z h103 b101 k101 .byte (1 : Int32) [(.int (p1.toInt8.toInt32))] (.int 0) := Arv.set Ar102 q102 S102 Nn102 H102 G102 (fits_nar_byte _) W103 0 rfl (Nat.le_of_ble_eq_true rfl)
 have K103 := Keep.of_wr W103
 have N103 := Fr.snoc X103 N0 (by omega : @LE.le Nat _ n0 b101)
 have sz2_K103 := K103.1
 have KC104 : Keep h0 h101 [] := (Keep.refl h0 []).trans K101 (all0)
 have KC105 : Keep h0 h103 [] := KC104.trans K103 (allS (Or.inr (by omega)) (all0))
 obtain ⟨fs, hr, hrun, hended, hW, hsame⟩ := X103.leave (v := some (.ref b101)) (nvr Bd.returns)
 refine ⟨_, _, pre0 _ ?_, hrun, hended, _, _, rfl, ?_, ⟨_, rfl⟩, hW, hsame.mono (by decide) (by decide)⟩
 ·skip
  show SS p e below s₁ m 0 #[vI p1] [] _
  refine XS.iconst X0.here hx rfl (hb hby d9_0) ?_
  show SS p e below s₁ m 1 #[vI p1] [(.int 1)] _
  refine st101 _ ?_
  refine XS.dup X101.here hx rfl (hb hby d9_3) rfl rfl ?_
  refine XS.iconst X101.here hx rfl (hb hby d9_4) ?_
  refine XS.iloadN X101.here hx rfl (hb hby d9_5) rfl ?_
  refine XS.i2b X101.here hx rfl (hb hby d9_6) rfl ?_
  show SS p e below T101 m 7 #[vI p1] [(.int (p1.toInt8.toInt32)), (.int 0), (.ref b101), (.ref b101)] _
  refine st103 _ ?_
  show SS p e below T103 m 8 #[vI p1] [(.ref b101)] _
  exact X103.areturnOut hx rfl Bd.returns rfl (hb hby d9_8) hr
 ·show Q_rm9 Z p1 h0 n0 _ T103.heap _
  rw [e103]
  exact ⟨_, _, rfl, N103, KC105, (by omega), V103⟩
theorem d10_0 : DK cD50 0 (.aload_n 0) 1 := by decide +kernel
theorem d10_1 : DK cD50 1 (.invokespecial 1) 3 := by decide +kernel
theorem d10_4 : DK cD50 4 (.aload_n 0) 1 := by decide +kernel
theorem d10_5 : DK cD50 5 (.aload_n 1) 1 := by decide +kernel
theorem d10_6 : DK cD50 6 (.putfield 9) 3 := by decide +kernel
theorem d10_9 : DK cD50 9 (.aload_n 0) 1 := by decide +kernel
theorem d10_10 : DK cD50 10 (.iload_n 2) 1 := by decide +kernel
theorem d10_11 : DK cD50 11 (.putfield 15) 3 := by decide +kernel
theorem d10_14 : DK cD50 14 (.return_) 1 := by decide +kernel
theorem ef_rm10 (m : MethodId) (y0 : Addr) (y1 : Addr) : entryFrame m #[(.ref y0), (.ref y1), (.int 0)] 3 = (mkF m 0 #[vR y0, vR y1, vI 0] []) := by first | (simp [entryFrame, mkF, argsToLocals, Value.category]; done) | rfl
def Q_rm10 (Z : State) (a1 : Addr) (a2 : Addr) (h0 : Heap) (n0 : Nat) (v : Option Value) (h : Heap) (L : List Loc) : Prop := v = none ∧ Fr n0 L ∧ Keep h0 h [a1] ∧ Exa Z h a1 "java/lang/String" ∧ Fld Z h a1 "java/lang/String" "value" "[B" (.ref a2) ∧ Fld Z h a1 "java/lang/String" "coder" "B" (.int 0)
theorem rm10 (l : Launch) (Z : State) (a0 : Array Value) (hw : HW a0 Z) (ws : List Jvm.Cond) (a1 : Addr) (a2 : Addr) (h0 : Heap) (n0 : Nat) (O0 : Old Z n0 h0) (g1 : n0 ≤ a1) (E1 : Exa Z h0 a1 "java/lang/String") (F1 : Fld Z h0 a1 "java/lang/String" "value" "[B" .null) (F2 : Fld Z h0 a1 "java/lang/String" "coder" "B" (.int 0)) :
  MF l mN54 jdk_42_method_151_code 3 none ws (Rm 1 0 0 12) Z #[(.ref a1), (.ref a2), (.int 0)] h0 (Q_rm10 Z a1 a2 h0 n0) := by
 refine MetFree.of_bodySF (plainFor_of_name pn_1) hisR ?_
 intro p e s m args below meth c s₁ Bd hml0 hP hK
 obtain ⟨rfl, hZ, hh⟩ := hP
 have hx := Bd.exec
 have hby := Bd.bytes
 have hml : c.maxLocals = 3 := hml0
 have hown : s.vm.findClass "java/lang/String" = some m.cls := findClass_of_methodNamed Bd.named
 have hnm := (name_of_methodNamed Bd.named Bd.method).1
 have X0 : Stand p l e (Rm 1 0 0 12) s m #[(.ref a1), (.ref a2), (.int 0)] below meth c s₁ [] 0 0 := Stand.of_body Bd
 have e0 : s₁.heap = h0 := by rw [← hh, Bd.state]; rfl
 have N0 := Fr.nil n0
 have hn0 : n0 ≤ h0.size := O0.1 ▸ O0.2.1
 have pre0 : ∀ t, SS p e below s₁ m 0 #[vR a1, vR a2, vI 0] [] t → SE p e below s₁ m #[(.ref a1), (.ref a2), (.int 0)] 3 t := fun t k => castTop (ef_rm10 m a1 a2) k
 have lt_a1 : @LT.lt Nat _ a1 h0.size := E1.lt
 obtain ⟨T101, X101, e101, st101⟩ := initO X0 hx hZ hown (tw hw 11 rfl) (tw hw 12 rfl) (tw hw 13 rfl) e0 (g := (mkF m 1 #[vR a1, vR a2, vI 0] [(.ref a1)])) rfl (by rw [hml]; rfl) rfl (hb hby d10_1) (by decide) (W := 0) (wL _) (by decide)
 obtain ⟨T102, h102, X102, e102, W102, st102⟩ := putF X101 hx hZ hown (host := "") (Or.inl (tw hw 28 rfl)) Via.refl e101 F1 E1 (Or.inr ⟨(tw hw 29 rfl), rfl, hnm⟩) (tw hw 1 rfl) (ty := (.array .byte)) (by decide) rfl rfl (g := (mkF m 6 #[vR a1, vR a2, vI 0] [(.ref a2), (.ref a1)])) rfl rfl (hb hby d10_6)
 have K102 := Keep.of_wr W102
 have Fw102 := Fld.same W102 F1
 have N102 := Fr.snoc X102 N0 (by omega : @LE.le Nat _ n0 a1)
 have sz1_K102 := K102.1
 have C103 := E1.keep K102
 have C104 := Fld.other W102 F2 (Or.inr (slot_ne (Or.inr (tw hw 27 rfl)) (Or.inr (tw hw 29 rfl)) (by decide) (t := .byte) (t' := (.array .byte)) (by decide) (by decide)))
 obtain ⟨T105, h105, X105, e105, W105, st105⟩ := putFN X102 hx hZ hown (tw hw 26 rfl) Via.refl e102 C104 C103 (Or.inr ⟨(tw hw 27 rfl), rfl, hnm⟩) (tw hw 1 rfl) (ty := .byte) (v' := (.int 0)) (by decide) rfl rfl (g := (mkF m 11 #[vR a1, vR a2, vI 0] [(.int 0), (.ref a1)])) rfl rfl (hb hby d10_11)
 have K105 := Keep.of_wr W105
 have Fw105 := Fld.same W105 C104
 have N105 := Fr.snoc X105 N102 (by omega : @LE.le Nat _ n0 a1)
 have sz2_K105 := K105.1
 have KC106 : Keep h0 h102 [a1] := (Keep.refl h0 [a1]).trans K102 (allS (Or.inl (List.mem_of_getElem? (i := 0) rfl)) (all0))
 have KC107 : Keep h0 h105 [a1] := KC106.trans K105 (allS (Or.inl (List.mem_of_getElem? (i := 0) rfl)) (all0))
 have C108 := C103.keep K105
 have C109 := Fld.other W105 Fw102 (Or.inr (slot_ne (Or.inr (tw hw 29 rfl)) (Or.inr (tw hw 27 rfl)) (by decide) (t := (.array .byte)) (t' := .byte) (by decide) (by decide)))
 obtain ⟨fs, hr, hrun, hended, hW, hsame⟩ := X105.leave (v := none) (fun _ => rfl)
 refine ⟨_, _, pre0 _ ?_, hrun, hended, _, _, rfl, ?_, ⟨_, rfl⟩, hW, hsame.mono (by decide) (by decide)⟩
 ·skip
  show SS p e below s₁ m 0 #[vR a1, vR a2, vI 0] [] _
  refine XS.aloadN X0.here hx rfl (hb hby d10_0) rfl rfl ?_
  show SS p e below s₁ m 1 #[vR a1, vR a2, vI 0] [(.ref a1)] _
  refine st101 _ ?_
  refine XS.aloadN X101.here hx rfl (hb hby d10_4) rfl rfl ?_
  refine XS.aloadN X101.here hx rfl (hb hby d10_5) rfl rfl ?_
  show SS p e below T101 m 6 #[vR a1, vR a2, vI 0] [(.ref a2), (.ref a1)] _
  refine st102 _ ?_
  refine XS.aloadN X102.here hx rfl (hb hby d10_9) rfl rfl ?_
  refine XS.iloadN X102.here hx rfl (hb hby d10_10) rfl ?_
  show SS p e below T102 m 11 #[vR a1, vR a2, vI 0] [(.int 0), (.ref a1)] _
  refine st105 _ ?_
  show SS p e below T105 m 14 #[vR a1, vR a2, vI 0] [] _
  exact X105.returnOut hx Bd.returns (hb hby d10_14) hr
 ·show Q_rm10 Z a1 a2 h0 n0 _ T105.heap _
  rw [e105]
  exact ⟨rfl, N105, KC107, C108, C109, Fw105⟩
theorem d7_0 : DK cD51 0 (.getstatic 38) 3 := by decide +kernel
theorem d7_3 : DK cD51 3 (.ifCond .eq 23) 3 := by decide +kernel
theorem d7_6 : DK cD51 6 (.iload_n 0) 1 := by decide +kernel
theorem d7_7 : DK cD51 7 (.invokestatic 1015) 3 := by decide +kernel
theorem d7_10 : DK cD51 10 (.ifCond .eq 16) 3 := by decide +kernel
theorem d7_13 : DK cD51 13 (.new 10) 3 := by decide +kernel
theorem d7_16 : DK cD51 16 (.dup) 1 := by decide +kernel
theorem d7_17 : DK cD51 17 (.iload_n 0) 1 := by decide +kernel
theorem d7_18 : DK cD51 18 (.invokestatic 1018) 3 := by decide +kernel
theorem d7_21 : DK cD51 21 (.iconst 0) 1 := by decide +kernel
theorem d7_22 : DK cD51 22 (.invokespecial 209) 3 := by decide +kernel
theorem d7_25 : DK cD51 25 (.areturn) 1 := by decide +kernel
theorem pd_7 : parseMethodDescriptor "(C)Z" = some ⟨[.char], some .boolean⟩ := by decide +kernel
theorem pd_8 : parseMethodDescriptor "(C)[B" = some ⟨[.char], some (.array .byte)⟩ := by decide +kernel
theorem pd_9 : parseMethodDescriptor "([BB)V" = some ⟨[(.array .byte), .byte], none⟩ := by decide +kernel
theorem ef_rm7 (m : MethodId) (y0 : Int32) : entryFrame m #[(.int y0)] 1 = (mkF m 0 #[vI y0] []) := by first | (simp [entryFrame, mkF, argsToLocals, Value.category]; done) | rfl
def Q_rm7 (Z : State) (p1 : Int32) (cs : Int32) (h0 : Heap) (n0 : Nat) (v : Option Value) (h : Heap) (L : List Loc) : Prop := ∃ (x t : Addr) (kb : ClassId), v = some (.ref x) ∧ Fr n0 L ∧ Keep h0 h [] ∧ h0.size ≤ x ∧ h0.size ≤ t ∧ @Ne Nat t x ∧ Exa Z h x "java/lang/String" ∧ Fld Z h x "java/lang/String" "coder" "B" (.int 0) ∧ Fld Z h x "java/lang/String" "value" "[B" (.ref t) ∧ Arv Z h t kb .byte (1 : Int32) [(.int (p1.toInt8.toInt32))] (.int 0)
theorem rm7 (l : Launch) (Z : State) (a0 : Array Value) (hw : HW a0 Z) (ws : List Jvm.Cond) (p1 : Int32) (cs : Int32) (h0 : Heap) (n0 : Nat) (O0 : Old Z n0 h0) (S_CS : SCS Z cs) (c_CS : ¬ (cs = (0 : Int32))) (hp : ¬ ((255 : Int32) < p1)) :
  MF l mN55 jdk_42_method_139_code 1 (some (.object "java/lang/String")) ws (Rm 2 2 5 40) Z #[(.int p1)] h0 (Q_rm7 Z p1 cs h0 n0) := by
 refine MetFree.of_bodySF (plainFor_of_name pn_1) hisR ?_
 intro p e s m args below meth c s₁ Bd hml0 hP hK
 obtain ⟨rfl, hZ, hh⟩ := hP
 have hx := Bd.exec
 have hby := Bd.bytes
 have hml : c.maxLocals = 1 := hml0
 have hown : s.vm.findClass "java/lang/String" = some m.cls := findClass_of_methodNamed Bd.named
 have X0 : Stand p l e (Rm 2 2 5 40) s m #[(.int p1)] below meth c s₁ [] 0 0 := Stand.of_body Bd
 have e0 : s₁.heap = h0 := by rw [← hh, Bd.state]; rfl
 have N0 := Fr.nil n0
 have hn0 : n0 ≤ h0.size := O0.1 ▸ O0.2.1
 have pre0 : ∀ t, SS p e below s₁ m 0 #[vI p1] [] t → SE p e below s₁ m #[(.int p1)] 1 t := fun t k => castTop (ef_rm7 m p1) k
 obtain ⟨T101, X101, e101, st101⟩ := getS2 X0 hx hZ hown (host := "") (Or.inl (tw hw 14 rfl)) Via.refl e0 (Sta.ext O0.2 S_CS) (g := (mkF m 0 #[vI p1] [])) rfl (hb hby d7_0)
 obtain ⟨_, _, ⟨T102, L102, k102, n102⟩, -, X102, ⟨Lc102, hQ102, l102, y102, z102⟩, st102⟩ := Jvm.LawKit.callS X101 hx (y := mN52) hown (mvT hZ (tw hw 33 rfl)) (mvT hZ (tw hw 34 rfl)) (mvT hZ (tw hw 35 rfl)) (mvT hZ (tw hw 36 rfl)) (by decide) (backOf (W := 0) (rm8 l Z a0 hw [] p1  h0 n0 O0 hp) hZ (tw hw 36 rfl) (tw hw 35 rfl) (by decide) (by decide)) (g := (mkF m 7 #[vI p1] [(.int p1)])) rfl (by rw [hml]; rfl) (argsL := [(.int p1)]) (rest := []) (lenOf pd_7 rfl) rfl (wL _) (hb hby d7_7) (fun _ _ => ⟨rfl, e101, (by decide : 0 + 0 ≤ _), (by decide : 0 + 0 ≤ _)⟩)
 dsimp only [Pt.U, Pt.locs, Pt.cells, Pt.slots] at X102 l102 y102 z102 st102 hQ102
 rw [l102] at X102
 subst y102 z102
 obtain ⟨rfl, N102q, H102⟩ := hQ102
 have N102 := Fr.app N0 N102q
 obtain ⟨T103, h103, X103, e103, E103, A103, D103, -, st103⟩ := newO X102 hx hZ hown (tw hw 37 rfl) (tw hw 1 rfl) (tw hw 2 rfl) H102 (g := (mkF m 13 #[vI p1] [])) rfl (hb hby d7_13) (by decide) (by decide)
 obtain ⟨b103, g103⟩ : ∃ z, z = h0.size := ⟨_, rfl⟩
 rw [← g103] at A103 D103 st103
 have lt103 : @LT.lt Nat _ b103 h103.size := A103.lt
 have K103 : Keep h0 h103 [] := (Keep.refl _ _).ext E103
 have sz1_K103 := K103.1
 have F103_coder : Fld Z h103 b103 "java/lang/String" "coder" "B" (.int 0) := D103 (Or.inr (tw hw 27 rfl)) (ty := .byte) (by decide)
 have F103_value : Fld Z h103 b103 "java/lang/String" "value" "[B" .null := D103 (Or.inr (tw hw 29 rfl)) (ty := (.array .byte)) (by decide)
 have O105 : Old Z n0 h103 := O0.keep K103 all0
 obtain ⟨_, _, ⟨T104, L104, k104, n104⟩, -, X104, ⟨Lc104, hQ104, l104, y104, z104⟩, st104⟩ := Jvm.LawKit.callS X103 hx (y := mN53) hown (mvT hZ (tw hw 38 rfl)) (mvT hZ (tw hw 39 rfl)) (mvT hZ (tw hw 35 rfl)) (mvT hZ (tw hw 40 rfl)) (by decide) (backOf (W := 2) (rm9 l Z a0 hw [] p1  h103 n0 O105 ) hZ (tw hw 40 rfl) (tw hw 35 rfl) (by decide) (by decide)) (g := (mkF m 18 #[vI p1] [(.int p1), (.ref b103), (.ref b103)])) rfl (by rw [hml]; rfl) (argsL := [(.int p1)]) (rest := [(.ref b103), (.ref b103)]) (lenOf pd_8 rfl) rfl (wL _) (hb hby d7_18) (fun _ _ => ⟨rfl, e103, (by decide : 1 + 1 ≤ _), (by decide : 4 + 1 ≤ _)⟩)
 dsimp only [Pt.U, Pt.locs, Pt.cells, Pt.slots] at X104 l104 y104 z104 st104 hQ104
 rw [l104] at X104
 subst y104 z104
 obtain ⟨t104, kb104, rfl, N104q, K104, gt104, V104⟩ := hQ104
 have lt104 : @LT.lt Nat _ t104 T104.heap.size := V104.lt
 have sz2_K104 := K104.1
 have N104 := Fr.app N102 N104q
 have C107 := A103.keep K104
 have C108 := F103_value.keep K104 nin0
 have C109 := F103_coder.keep K104 nin0
 have O110 : Old Z n0 T104.heap := O105.keep K104 all0
 obtain ⟨_, _, ⟨T106, L106, k106, n106⟩, -, X106, ⟨Lc106, hQ106, l106, y106, z106⟩, st106⟩ := X104.specialBack hx (y := mN54) rfl hown (mvT hZ (tw hw 41 rfl)) (mvT hZ (tw hw 42 rfl)) (mvT hZ (tw hw 43 rfl)) (by decide) (backOf (W := 1) (rm10 l Z a0 hw [] b103 t104  T104.heap n0 O110 (by omega : @LE.le Nat _ n0 b103) C107 C108 C109) hZ (tw hw 43 rfl) (tw hw 2 rfl) (by decide) (by decide)) (g := (mkF m 22 #[vI p1] [(.int 0), (.ref t104), (.ref b103), (.ref b103)])) rfl (by rw [hml]; rfl) (Steps.refl _) (a := b103) (argsL := [(.ref t104), (.int 0)]) (rest := [(.ref b103)]) (lenOf pd_9 rfl) rfl (wL _) (hb hby d7_22) (fun _ _ => ⟨rfl, rfl, (by decide : 2 + 0 ≤ _), (by decide : 5 + 0 ≤ _)⟩)
 dsimp only [Pt.U, Pt.locs, Pt.cells, Pt.slots] at X106 l106 y106 z106 st106 hQ106
 rw [l106] at X106
 subst y106 z106
 obtain ⟨rfl, N106q, K106, E106, Fv106, Fc106⟩ := hQ106
 have sz3_K106 := K106.1
 have N106 := Fr.app N104 N106q
 have KC111 : Keep h0 h103 [] := (Keep.refl h0 []).trans K103 (all0)
 have KC112 : Keep h0 T104.heap [] := KC111.trans K104 (all0)
 have KC113 : Keep h0 T106.heap [] := KC112.trans K106 (allS (Or.inr (by omega)) (all0))
 have C114 := V104.keep K106 (ninS (by omega : @Ne Nat t104 b103) (nin0))
 obtain ⟨fs, hr, hrun, hended, hW, hsame⟩ := X106.leave (v := some (.ref b103)) (nvr Bd.returns)
 refine ⟨_, _, pre0 _ ?_, hrun, hended, _, _, rfl, ?_, ⟨_, rfl⟩, hW, hsame.mono (by decide) (by decide)⟩
 ·skip
  show SS p e below s₁ m 0 #[vI p1] [] _
  refine st101 _ ?_
  refine XS.ifNo X101.here hx rfl (hb hby d7_3) rfl ((if0 _ _).trans (feq (c_CS : ¬ (cs = (0 : Int32)))).1) ?_
  refine XS.iloadN X101.here hx rfl (hb hby d7_6) rfl ?_
  show SS p e below T101 m 7 #[vI p1] [(.int p1)] _
  refine st102 _ ?_
  refine XS.ifNo X102.here hx rfl (hb hby d7_10) rfl ((if0 _ _).trans (feq (by decide : ¬ ((1 : Int32) = (0 : Int32)))).1) ?_
  show SS p e below T102 m 13 #[vI p1] [] _
  refine st103 _ ?_
  refine XS.dup X103.here hx rfl (hb hby d7_16) rfl rfl ?_
  refine XS.iloadN X103.here hx rfl (hb hby d7_17) rfl ?_
  show SS p e below T103 m 18 #[vI p1] [(.int p1), (.ref b103), (.ref b103)] _
  refine st104 _ ?_
  refine XS.iconst X104.here hx rfl (hb hby d7_21) ?_
  show SS p e below T104 m 22 #[vI p1] [(.int 0), (.ref t104), (.ref b103), (.ref b103)] _
  refine st106.trans ?_
  show SS p e below T106 m 25 #[vI p1] [(.ref b103)] _
  exact X106.areturnOut hx rfl Bd.returns rfl (hb hby d7_25) hr
 ·show Q_rm7 Z p1 cs h0 n0 _ T106.heap _
  exact ⟨_, _, _, rfl, N106, KC113, (by omega), (by omega), (by omega), E106, Fc106, Fv106, C114⟩
theorem pn_0 : plainName "com/example/nroute/nroute/route/MistakesAddPinLaw" = true := by first | (simp [plainName, overriddenIn]; done) | decide +kernel
theorem pd_0 : parseMethodDescriptor "([C)V" = some ⟨[(.array .char)], none⟩ := by decide +kernel
theorem pd_6 : parseMethodDescriptor "(C)Ljava/lang/String;" = some ⟨[.char], some (.object "java/lang/String")⟩ := by decide +kernel
theorem pd_14 : parseMethodDescriptor "(Ljava/lang/String;Ljava/lang/String;)V" = some ⟨[(.object "java/lang/String"), (.object "java/lang/String")], none⟩ := by decide +kernel
theorem pd_40 : parseMethodDescriptor "(I)Ljava/lang/Object;" = some ⟨[.int], some (.object "java/lang/Object")⟩ := by decide +kernel
theorem ef_rm0 (m : MethodId) (y0 : Int32) (y1 : Int32) (y2 : Int32) (y3 : Int32) (y4 : Int32) : entryFrame m #[(.int y0), (.int y1), (.int y2), (.int y3), (.int y4)] maxLocals = (mkF m 0 #[vI y0, vI y1, vI y2, vI y3, vI y4, .unset, .unset, .unset, .unset, .unset, .unset, .unset, .unset, .unset, .unset, .unset, .unset, .unset, .unset, .unset, .unset, .unset, .unset] []) := by first | (simp [entryFrame, mkF, argsToLocals, Value.category, maxLocals]; done) | rfl
def Q_rm0 (Z : State) (p1 : Int32) (p2 : Int32) (p3 : Int32) (p4 : Int32) (p5 : Int32) (cs0 : Int32) (dd el ea em mr : Addr) (kD kE : ClassId) (h0 : Heap) (n0 : Nat) (v : Option Value) (h : Heap) (L : List Loc) : Prop := v = some (.int 1) ∧ Fr n0 L
theorem rm0 (l : Launch) (Z : State) (a0 : Array Value) (hw : HW a0 Z) (ws : List Jvm.Cond) (p1 : Int32) (p2 : Int32) (p3 : Int32) (p4 : Int32) (p5 : Int32) (cs0 : Int32) (dd el ea em mr : Addr) (kD kE : ClassId) (h0 : Heap) (n0 : Nat) (O0 : Old Z n0 h0) (S_CS : SCS Z cs0) (c_CS : ¬ (cs0 = (0 : Int32))) (S_DC : Sta Z Z.heap "java/util/ArrayList" "DEFAULTCAPACITY_EMPTY_ELEMENTDATA" "[Ljava/lang/Object;" (.ref dd)) (V_DC : Arv Z Z.heap dd kD (.object "java/lang/Object") (0 : Int32) [] .null) (S_EL : Sta Z Z.heap "java/util/ImmutableCollections" "EMPTY_LIST" "Ljava/util/ImmutableCollections$ListN;" (.ref el)) (E_EL : Exa Z Z.heap el "java/util/ImmutableCollections$ListN") (F_EL : Fld Z Z.heap el "java/util/ImmutableCollections$ListN" "elements" "[Ljava/lang/Object;" (.ref ea)) (V_EL : Arv Z Z.heap ea kE (.object "java/lang/Object") (0 : Int32) [] .null) (S_EM : Sta Z Z.heap "java/util/ImmutableCollections" "EMPTY" "Ljava/lang/Object;" (.ref em)) (hem : @LT.lt Nat _ em n0) (MR : Mrr Z "[Ljava/lang/Object;" mr) :
  MetFree l x (head1 (Jvm.Cond.code x code maxLocals ret :: ws) room_1) (fun a U => a = #[(.int p1), (.int p2), (.int p3), (.int p4), (.int p5)] ∧ Z.Warmed39 U.vm ∧ U.heap = h0 ∧ CHv Z EL1 U.vm h0) (fun _ _ _ _ _ => True) (fun _ U o U' => ∃ v L, o = .returned v ∧ Q_rm0 Z p1 p2 p3 p4 p5 cs0 dd el ea em mr kD kE h0 n0 v U'.heap L ∧ ReturnedEndW U o U' L room_1.cells room_1.slots) := by
 refine MetFree.of_bodySF (plainFor_of_name pn_0) hisR ?_
 intro p e s m args below meth c s₁ Bd hml0 hP hK
 obtain ⟨rfl, hZ, hh, hCH⟩ := hP
 have hx := Bd.exec
 have hby := Bd.bytes
 have hml : c.maxLocals = 23 := hml0
 have hown : s.vm.findClass "com/example/nroute/nroute/route/MistakesAddPinLaw" = some m.cls := findClass_of_methodNamed Bd.named
 have X0 : Stand p l e room_1 s m #[(.int p1), (.int p2), (.int p3), (.int p4), (.int p5)] below meth c s₁ [] 0 0 := Stand.of_body Bd
 have e0 : s₁.heap = h0 := by rw [← hh, Bd.state]; rfl
 have N0 := Fr.nil n0
 have hn0 : n0 ≤ h0.size := O0.1 ▸ O0.2.1
 have CR0 := CHr.refl hCH
 have hS0 : s.Since s.vm h0.size := (State.WarmedH.refl s).since _
 have pre0 : ∀ t, SS p e below s₁ m 0 #[vI p1, vI p2, vI p3, vI p4, vI p5, .unset, .unset, .unset, .unset, .unset, .unset, .unset, .unset, .unset, .unset, .unset, .unset, .unset, .unset, .unset, .unset, .unset, .unset] [] t → SE p e below s₁ m #[(.int p1), (.int p2), (.int p3), (.int p4), (.int p5)] maxLocals t := fun t k => castTop (ef_rm0 m p1 p2 p3 p4 p5) k
 have wStr : ∀ d ∈ Bundle.stringAtoms, d.before a0 Z = true := fun d hd => hw d ((by decide +kernel : ∀ d ∈ Bundle.stringAtoms, d ∈ tables_1) d hd)
 have hws : ∀ d ∈ StrChars.Road.words, d.before a0 Z = true := fun d hd => hw d ((by decide +kernel : ∀ d ∈ StrChars.Road.words, d ∈ tables_1) d hd)
 have hwq : ∀ d ∈ StrChars.Road.wordsEq, d.before a0 Z = true := fun d hd => hw d ((by decide +kernel : ∀ d ∈ StrChars.Road.wordsEq, d ∈ tables_1) d hd)
 have hEW : EW Z a0 EL1 := EW.cons (tw hw 159 rfl) (by decide) (EW.cons (tw hw 207 rfl) (by decide) (EW.cons (tw hw 44 rfl) (by decide) EW.nil))
 have E_el := E_EL.ext O0.2
 have F_el := F_EL.ext O0.2
 have V_el := V_EL.ext O0.2
 have lt_el : @LT.lt Nat _ el n0 := by rw [← O0.1]; exact E_EL.lt
 have lt_ea : @LT.lt Nat _ ea n0 := by rw [← O0.1]; exact V_EL.lt
 have pre101 : ∀ t, SS p e below s₁ m 54 #[vI p1, vI p2, vI p3, vI p4, vI p5, vI ((p1 &&& (255 : Int32)).toUInt32.toUInt16.toUInt32.toInt32), vI ((((p1.toUInt32 >>> ((8 : Int32) &&& 31).toUInt32).toInt32) &&& (255 : Int32)).toUInt32.toUInt16.toUInt32.toInt32), vI ((p2 &&& (255 : Int32)).toUInt32.toUInt16.toUInt32.toInt32), vI ((((p2.toUInt32 >>> ((8 : Int32) &&& 31).toUInt32).toInt32) &&& (255 : Int32)).toUInt32.toUInt16.toUInt32.toInt32), vI ((p3 &&& (255 : Int32)).toUInt32.toUInt16.toUInt32.toInt32), vI ((p4 &&& (255 : Int32)).toUInt32.toUInt16.toUInt32.toInt32), .unset, .unset, .unset, .unset, .unset, .unset, .unset, .unset, .unset, .unset, .unset, .unset] [] t → SE p e below s₁ m #[(.int p1), (.int p2), (.int p3), (.int p4), (.int p5)] maxLocals t := by
  intro t kt
  refine pre0 _ ?_
  show SS p e below s₁ m 0 #[vI p1, vI p2, vI p3, vI p4, vI p5, .unset, .unset, .unset, .unset, .unset, .unset, .unset, .unset, .unset, .unset, .unset, .unset, .unset, .unset, .unset, .unset, .unset, .unset] [] _
  refine XS.iloadN X0.here hx rfl (hb hby at_0) rfl ?_
  refine XS.sipush X0.here hx rfl (hb hby at_1) ?_
  refine XS.iand X0.here hx rfl (hb hby at_4) rfl ?_
  refine XS.i2c X0.here hx rfl (hb hby at_5) rfl ?_
  refine XS.istore X0.here hx rfl (hb hby at_6) rfl (l' := #[vI p1, vI p2, vI p3, vI p4, vI p5, vI ((p1 &&& (255 : Int32)).toUInt32.toUInt16.toUInt32.toInt32), .unset, .unset, .unset, .unset, .unset, .unset, .unset, .unset, .unset, .unset, .unset, .unset, .unset, .unset, .unset, .unset, .unset]) rfl ?_
  refine XS.iloadN X0.here hx rfl (hb hby at_8) rfl ?_
  refine XS.bipush X0.here hx rfl (hb hby at_9) ?_
  show SS p e below s₁ m 11 #[vI p1, vI p2, vI p3, vI p4, vI p5, vI ((p1 &&& (255 : Int32)).toUInt32.toUInt16.toUInt32.toInt32), .unset, .unset, .unset, .unset, .unset, .unset, .unset, .unset, .unset, .unset, .unset, .unset, .unset, .unset, .unset, .unset, .unset] [(.int 8), (.int p1)] _
  refine XS.iushr X0.here hx rfl (hb hby at_11) rfl ?_
  refine XS.sipush X0.here hx rfl (hb hby at_12) ?_
  refine XS.iand X0.here hx rfl (hb hby at_15) rfl ?_
  refine XS.i2c X0.here hx rfl (hb hby at_16) rfl ?_
  refine XS.istore X0.here hx rfl (hb hby at_17) rfl (l' := #[vI p1, vI p2, vI p3, vI p4, vI p5, vI ((p1 &&& (255 : Int32)).toUInt32.toUInt16.toUInt32.toInt32), vI ((((p1.toUInt32 >>> ((8 : Int32) &&& 31).toUInt32).toInt32) &&& (255 : Int32)).toUInt32.toUInt16.toUInt32.toInt32), .unset, .unset, .unset, .unset, .unset, .unset, .unset, .unset, .unset, .unset, .unset, .unset, .unset, .unset, .unset, .unset]) rfl ?_
  refine XS.iloadN X0.here hx rfl (hb hby at_19) rfl ?_
  refine XS.sipush X0.here hx rfl (hb hby at_20) ?_
  refine XS.iand X0.here hx rfl (hb hby at_23) rfl ?_
  refine XS.i2c X0.here hx rfl (hb hby at_24) rfl ?_
  refine XS.istore X0.here hx rfl (hb hby at_25) rfl (l' := #[vI p1, vI p2, vI p3, vI p4, vI p5, vI ((p1 &&& (255 : Int32)).toUInt32.toUInt16.toUInt32.toInt32), vI ((((p1.toUInt32 >>> ((8 : Int32) &&& 31).toUInt32).toInt32) &&& (255 : Int32)).toUInt32.toUInt16.toUInt32.toInt32), vI ((p2 &&& (255 : Int32)).toUInt32.toUInt16.toUInt32.toInt32), .unset, .unset, .unset, .unset, .unset, .unset, .unset, .unset, .unset, .unset, .unset, .unset, .unset, .unset, .unset]) rfl ?_
  refine XS.iloadN X0.here hx rfl (hb hby at_27) rfl ?_
  refine XS.bipush X0.here hx rfl (hb hby at_28) ?_
  show SS p e below s₁ m 30 #[vI p1, vI p2, vI p3, vI p4, vI p5, vI ((p1 &&& (255 : Int32)).toUInt32.toUInt16.toUInt32.toInt32), vI ((((p1.toUInt32 >>> ((8 : Int32) &&& 31).toUInt32).toInt32) &&& (255 : Int32)).toUInt32.toUInt16.toUInt32.toInt32), vI ((p2 &&& (255 : Int32)).toUInt32.toUInt16.toUInt32.toInt32), .unset, .unset, .unset, .unset, .unset, .unset, .unset, .unset, .unset, .unset, .unset, .unset, .unset, .unset, .unset] [(.int 8), (.int p2)] _
  refine XS.iushr X0.here hx rfl (hb hby at_30) rfl ?_
  refine XS.sipush X0.here hx rfl (hb hby at_31) ?_
  refine XS.iand X0.here hx rfl (hb hby at_34) rfl ?_
  refine XS.i2c X0.here hx rfl (hb hby at_35) rfl ?_
  refine XS.istore X0.here hx rfl (hb hby at_36) rfl (l' := #[vI p1, vI p2, vI p3, vI p4, vI p5, vI ((p1 &&& (255 : Int32)).toUInt32.toUInt16.toUInt32.toInt32), vI ((((p1.toUInt32 >>> ((8 : Int32) &&& 31).toUInt32).toInt32) &&& (255 : Int32)).toUInt32.toUInt16.toUInt32.toInt32), vI ((p2 &&& (255 : Int32)).toUInt32.toUInt16.toUInt32.toInt32), vI ((((p2.toUInt32 >>> ((8 : Int32) &&& 31).toUInt32).toInt32) &&& (255 : Int32)).toUInt32.toUInt16.toUInt32.toInt32), .unset, .unset, .unset, .unset, .unset, .unset, .unset, .unset, .unset, .unset, .unset, .unset, .unset, .unset]) rfl ?_
  refine XS.iloadN X0.here hx rfl (hb hby at_38) rfl ?_
  refine XS.sipush X0.here hx rfl (hb hby at_39) ?_
  refine XS.iand X0.here hx rfl (hb hby at_42) rfl ?_
  refine XS.i2c X0.here hx rfl (hb hby at_43) rfl ?_
  refine XS.istore X0.here hx rfl (hb hby at_44) rfl (l' := #[vI p1, vI p2, vI p3, vI p4, vI p5, vI ((p1 &&& (255 : Int32)).toUInt32.toUInt16.toUInt32.toInt32), vI ((((p1.toUInt32 >>> ((8 : Int32) &&& 31).toUInt32).toInt32) &&& (255 : Int32)).toUInt32.toUInt16.toUInt32.toInt32), vI ((p2 &&& (255 : Int32)).toUInt32.toUInt16.toUInt32.toInt32), vI ((((p2.toUInt32 >>> ((8 : Int32) &&& 31).toUInt32).toInt32) &&& (255 : Int32)).toUInt32.toUInt16.toUInt32.toInt32), vI ((p3 &&& (255 : Int32)).toUInt32.toUInt16.toUInt32.toInt32), .unset, .unset, .unset, .unset, .unset, .unset, .unset, .unset, .unset, .unset, .unset, .unset, .unset]) rfl ?_
  refine XS.iloadN X0.here hx rfl (hb hby at_46) rfl ?_
  refine XS.sipush X0.here hx rfl (hb hby at_47) ?_
  refine XS.iand X0.here hx rfl (hb hby at_50) rfl ?_
  refine XS.i2c X0.here hx rfl (hb hby at_51) rfl ?_
  refine XS.istore X0.here hx rfl (hb hby at_52) rfl (l' := #[vI p1, vI p2, vI p3, vI p4, vI p5, vI ((p1 &&& (255 : Int32)).toUInt32.toUInt16.toUInt32.toInt32), vI ((((p1.toUInt32 >>> ((8 : Int32) &&& 31).toUInt32).toInt32) &&& (255 : Int32)).toUInt32.toUInt16.toUInt32.toInt32), vI ((p2 &&& (255 : Int32)).toUInt32.toUInt16.toUInt32.toInt32), vI ((((p2.toUInt32 >>> ((8 : Int32) &&& 31).toUInt32).toInt32) &&& (255 : Int32)).toUInt32.toUInt16.toUInt32.toInt32), vI ((p3 &&& (255 : Int32)).toUInt32.toUInt16.toUInt32.toInt32), vI ((p4 &&& (255 : Int32)).toUInt32.toUInt16.toUInt32.toInt32), .unset, .unset, .unset, .unset, .unset, .unset, .unset, .unset, .unset, .unset, .unset, .unset]) rfl ?_
  exact kt
 obtain ⟨c5, ec5, rc5⟩ : ∃ z, ((p1 &&& (255 : Int32)).toUInt32.toUInt16.toUInt32.toInt32) = z ∧ (¬ z < 0 ∧ ¬ (255 : Int32) < z) := ⟨_, rfl, own_byte1 _⟩
 have hr102 : ((p1 &&& (255 : Int32)).toUInt32.toUInt16.toUInt32.toInt32) = c5 := ec5
 obtain ⟨c6, ec6, rc6⟩ : ∃ z, ((((p1.toUInt32 >>> ((8 : Int32) &&& 31).toUInt32).toInt32) &&& (255 : Int32)).toUInt32.toUInt16.toUInt32.toInt32) = z ∧ (¬ z < 0 ∧ ¬ (255 : Int32) < z) := ⟨_, rfl, own_byte1 _⟩
 have hr103 : ((((p1.toUInt32 >>> ((8 : Int32) &&& 31).toUInt32).toInt32) &&& (255 : Int32)).toUInt32.toUInt16.toUInt32.toInt32) = c6 := ec6
 obtain ⟨c7, ec7, rc7⟩ : ∃ z, ((p2 &&& (255 : Int32)).toUInt32.toUInt16.toUInt32.toInt32) = z ∧ (¬ z < 0 ∧ ¬ (255 : Int32) < z) := ⟨_, rfl, own_byte1 _⟩
 have hr104 : ((p2 &&& (255 : Int32)).toUInt32.toUInt16.toUInt32.toInt32) = c7 := ec7
 obtain ⟨c8, ec8, rc8⟩ : ∃ z, ((((p2.toUInt32 >>> ((8 : Int32) &&& 31).toUInt32).toInt32) &&& (255 : Int32)).toUInt32.toUInt16.toUInt32.toInt32) = z ∧ (¬ z < 0 ∧ ¬ (255 : Int32) < z) := ⟨_, rfl, own_byte1 _⟩
 have hr105 : ((((p2.toUInt32 >>> ((8 : Int32) &&& 31).toUInt32).toInt32) &&& (255 : Int32)).toUInt32.toUInt16.toUInt32.toInt32) = c8 := ec8
 obtain ⟨c9, ec9, rc9⟩ : ∃ z, ((p3 &&& (255 : Int32)).toUInt32.toUInt16.toUInt32.toInt32) = z ∧ (¬ z < 0 ∧ ¬ (255 : Int32) < z) := ⟨_, rfl, own_byte1 _⟩
 have hr106 : ((p3 &&& (255 : Int32)).toUInt32.toUInt16.toUInt32.toInt32) = c9 := ec9
 obtain ⟨c10, ec10, rc10⟩ : ∃ z, ((p4 &&& (255 : Int32)).toUInt32.toUInt16.toUInt32.toInt32) = z ∧ (¬ z < 0 ∧ ¬ (255 : Int32) < z) := ⟨_, rfl, own_byte1 _⟩
 have hr107 : ((p4 &&& (255 : Int32)).toUInt32.toUInt16.toUInt32.toInt32) = c10 := ec10
 have pre109 : ∀ t, SS p e below s₁ m 58 #[vI p1, vI p2, vI p3, vI p4, vI p5, vI c5, vI c6, vI c7, vI c8, vI c9, vI c10, .unset, .unset, .unset, .unset, .unset, .unset, .unset, .unset, .unset, .unset, .unset, .unset] [(.int (p5 &&& (1 : Int32)))] t → SE p e below s₁ m #[(.int p1), (.int p2), (.int p3), (.int p4), (.int p5)] maxLocals t := by
  intro t kt
  refine pre101 _ ?_
  show SS p e below s₁ m 54 #[vI p1, vI p2, vI p3, vI p4, vI p5, vI ((p1 &&& (255 : Int32)).toUInt32.toUInt16.toUInt32.toInt32), vI ((((p1.toUInt32 >>> ((8 : Int32) &&& 31).toUInt32).toInt32) &&& (255 : Int32)).toUInt32.toUInt16.toUInt32.toInt32), vI ((p2 &&& (255 : Int32)).toUInt32.toUInt16.toUInt32.toInt32), vI ((((p2.toUInt32 >>> ((8 : Int32) &&& 31).toUInt32).toInt32) &&& (255 : Int32)).toUInt32.toUInt16.toUInt32.toInt32), vI ((p3 &&& (255 : Int32)).toUInt32.toUInt16.toUInt32.toInt32), vI ((p4 &&& (255 : Int32)).toUInt32.toUInt16.toUInt32.toInt32), .unset, .unset, .unset, .unset, .unset, .unset, .unset, .unset, .unset, .unset, .unset, .unset] [] _
  rw [hr102]
  show SS p e below s₁ m 54 #[vI p1, vI p2, vI p3, vI p4, vI p5, vI c5, vI ((((p1.toUInt32 >>> ((8 : Int32) &&& 31).toUInt32).toInt32) &&& (255 : Int32)).toUInt32.toUInt16.toUInt32.toInt32), vI ((p2 &&& (255 : Int32)).toUInt32.toUInt16.toUInt32.toInt32), vI ((((p2.toUInt32 >>> ((8 : Int32) &&& 31).toUInt32).toInt32) &&& (255 : Int32)).toUInt32.toUInt16.toUInt32.toInt32), vI ((p3 &&& (255 : Int32)).toUInt32.toUInt16.toUInt32.toInt32), vI ((p4 &&& (255 : Int32)).toUInt32.toUInt16.toUInt32.toInt32), .unset, .unset, .unset, .unset, .unset, .unset, .unset, .unset, .unset, .unset, .unset, .unset] [] _
  rw [hr103]
  show SS p e below s₁ m 54 #[vI p1, vI p2, vI p3, vI p4, vI p5, vI c5, vI c6, vI ((p2 &&& (255 : Int32)).toUInt32.toUInt16.toUInt32.toInt32), vI ((((p2.toUInt32 >>> ((8 : Int32) &&& 31).toUInt32).toInt32) &&& (255 : Int32)).toUInt32.toUInt16.toUInt32.toInt32), vI ((p3 &&& (255 : Int32)).toUInt32.toUInt16.toUInt32.toInt32), vI ((p4 &&& (255 : Int32)).toUInt32.toUInt16.toUInt32.toInt32), .unset, .unset, .unset, .unset, .unset, .unset, .unset, .unset, .unset, .unset, .unset, .unset] [] _
  rw [hr104]
  show SS p e below s₁ m 54 #[vI p1, vI p2, vI p3, vI p4, vI p5, vI c5, vI c6, vI c7, vI ((((p2.toUInt32 >>> ((8 : Int32) &&& 31).toUInt32).toInt32) &&& (255 : Int32)).toUInt32.toUInt16.toUInt32.toInt32), vI ((p3 &&& (255 : Int32)).toUInt32.toUInt16.toUInt32.toInt32), vI ((p4 &&& (255 : Int32)).toUInt32.toUInt16.toUInt32.toInt32), .unset, .unset, .unset, .unset, .unset, .unset, .unset, .unset, .unset, .unset, .unset, .unset] [] _
  rw [hr105]
  show SS p e below s₁ m 54 #[vI p1, vI p2, vI p3, vI p4, vI p5, vI c5, vI c6, vI c7, vI c8, vI ((p3 &&& (255 : Int32)).toUInt32.toUInt16.toUInt32.toInt32), vI ((p4 &&& (255 : Int32)).toUInt32.toUInt16.toUInt32.toInt32), .unset, .unset, .unset, .unset, .unset, .unset, .unset, .unset, .unset, .unset, .unset, .unset] [] _
  rw [hr106]
  show SS p e below s₁ m 54 #[vI p1, vI p2, vI p3, vI p4, vI p5, vI c5, vI c6, vI c7, vI c8, vI c9, vI ((p4 &&& (255 : Int32)).toUInt32.toUInt16.toUInt32.toInt32), .unset, .unset, .unset, .unset, .unset, .unset, .unset, .unset, .unset, .unset, .unset, .unset] [] _
  rw [hr107]
  refine XS.iload X0.here hx rfl (hb hby at_54) rfl ?_
  refine XS.iconst X0.here hx rfl (hb hby at_56) ?_
  refine XS.iand X0.here hx rfl (hb hby at_57) rfl ?_
  exact kt
 by_cases hc108 : (p5 &&& (1 : Int32)) = (0 : Int32)
 ·skip
  obtain ⟨T110, h110, X110, e110, E110, A110, D110, -, st110⟩ := newO X0 hx hZ hown (tw hw 0 rfl) (tw hw 1 rfl) (tw hw 2 rfl) e0 (g := (mkF m 68 #[vI p1, vI p2, vI p3, vI p4, vI p5, vI c5, vI c6, vI c7, vI c8, vI c9, vI c10, vI 0, .unset, .unset, .unset, .unset, .unset, .unset, .unset, .unset, .unset, .unset, .unset] [])) rfl (hb hby at_68) (by decide) (by decide)
  obtain ⟨b110, g110⟩ : ∃ z, z = h0.size := ⟨_, rfl⟩
  rw [← g110] at A110 D110 st110
  have lt110 : @LT.lt Nat _ b110 h110.size := A110.lt
  have K110 : Keep h0 h110 [] := (Keep.refl _ _).ext E110
  have cR1_K110 := CR0.trans (CHr.keep K110 sf0 CR0.1)
  have sz1_K110 := K110.1
  have F110_coder : Fld Z h110 b110 "java/lang/String" "coder" "B" (.int 0) := D110 (Or.inr (tw hw 27 rfl)) (ty := .byte) (by decide)
  have F110_value : Fld Z h110 b110 "java/lang/String" "value" "[B" .null := D110 (Or.inr (tw hw 29 rfl)) (ty := (.array .byte)) (by decide)
  obtain ⟨T111, h111, k111, X111, e111, E111, A111, st111⟩ := newP X110 hx hZ (tw hw 3 rfl) e110 (g := (mkF m 73 #[vI p1, vI p2, vI p3, vI p4, vI p5, vI c5, vI c6, vI c7, vI c8, vI c9, vI c10, vI 0, .unset, .unset, .unset, .unset, .unset, .unset, .unset, .unset, .unset, .unset, .unset] [(.int 2), (.ref b110), (.ref b110)])) rfl (hb hby at_73) rfl (by decide) (cap := 2) (by decide) (by decide) (by decide) (by decide)
  obtain ⟨b111, g111⟩ : ∃ z, z = h110.size := ⟨_, rfl⟩
  rw [← g111] at A111 st111
  have V111 : Arv Z h111 b111 k111 .char (2 : Int32) [(.int 0), (.int 0)] (.int 0) := (Arv.new A111 (by decide)).pad (pad_rep [] (.int 0) 2)
  have lt111 : @LT.lt Nat _ b111 h111.size := V111.lt
  have K111 : Keep h110 h111 [] := (Keep.refl _ _).ext E111
  have cR2_K111 := cR1_K110.trans (CHr.keep K111 sf0 cR1_K110.1)
  have sz2_K111 := K111.1
  obtain ⟨cl112, Ar112, q112, S112, Nn112, H112, G112⟩ := id V111
  obtain ⟨T113, h113, X113, e113, W113, st113⟩ := stC X111 hx hZ e111 Ar112 (j := (0 : Int32)) (inb_of S112 ⟨by decide, by decide⟩) (g := (mkF m 79 #[vI p1, vI p2, vI p3, vI p4, vI p5, vI c5, vI c6, vI c7, vI c8, vI c9, vI c10, vI 0, .unset, .unset, .unset, .unset, .unset, .unset, .unset, .unset, .unset, .unset, .unset] [(.int c5), (.int 0), (.ref b111), (.ref b111), (.ref b110), (.ref b110)])) rfl rfl (hb hby at_79)
  rw [own_nc (own_c255 rc5)] at W113
  have V113 : Arv Z h113 b111 k111 .char (2 : Int32) [(.int c5), (.int 0)] (.int 0) := Arv.set Ar112 q112 S112 Nn112 H112 G112 (own_fitc (own_c255 rc5)) W113 0 rfl (Nat.le_of_ble_eq_true rfl)
  have K113 := Keep.of_wr W113
  have N113 := Fr.snoc X113 N0 (by omega : @LE.le Nat _ n0 b111)
  have hs3_K113 : ∀ zz ∈ ([b111] : List Addr), Safe Z EL1 s.vm h111 zz := sfS (Safe.arv hZ.alike V111 (by decide)) (sf0)
  have cR3_K113 := cR2_K111.trans (CHr.keep K113 hs3_K113 cR2_K111.1)
  have sz3_K113 := K113.1
  obtain ⟨cl114, Ar114, q114, S114, Nn114, H114, G114⟩ := id V113
  obtain ⟨T115, h115, X115, e115, W115, st115⟩ := stC X113 hx hZ e113 Ar114 (j := (1 : Int32)) (inb_of S114 ⟨by decide, by decide⟩) (g := (mkF m 84 #[vI p1, vI p2, vI p3, vI p4, vI p5, vI c5, vI c6, vI c7, vI c8, vI c9, vI c10, vI 0, .unset, .unset, .unset, .unset, .unset, .unset, .unset, .unset, .unset, .unset, .unset] [(.int c6), (.int 1), (.ref b111), (.ref b111), (.ref b110), (.ref b110)])) rfl rfl (hb hby at_84)
  rw [own_nc (own_c255 rc6)] at W115
  have V115 : Arv Z h115 b111 k111 .char (2 : Int32) [(.int c5), (.int c6)] (.int 0) := Arv.set Ar114 q114 S114 Nn114 H114 G114 (own_fitc (own_c255 rc6)) W115 1 rfl (Nat.le_of_ble_eq_true rfl)
  have K115 := Keep.of_wr W115
  have N115 := Fr.snoc X115 N113 (by omega : @LE.le Nat _ n0 b111)
  have hs4_K115 : ∀ zz ∈ ([b111] : List Addr), Safe Z EL1 s.vm h113 zz := sfS (Safe.arv hZ.alike V113 (by decide)) (sf0)
  have cR4_K115 := cR3_K113.trans (CHr.keep K115 hs4_K115 cR3_K113.1)
  have sz4_K115 := K115.1
  have hL117 : ∀ c ∈ ([c5, c6] : List Int32), ¬ c < 0 ∧ ¬ (255 : Int32) < c := by intro c hc; simp only [List.mem_cons, List.not_mem_nil, or_false] at hc; rcases hc with rfl | rfl <;> first | decide | exact rc5 | exact rc6
  have KD118 : Keep h110 h113 [] := ((Keep.refl _ _).trans K111 (all0)).trans K113 (allS (Or.inr (by omega)) (all0))
  have KD119 : Keep h110 h115 [] := ((Keep.refl _ _).trans KD118 (all0)).trans K115 (allS (Or.inr (by omega)) (all0))
  have C120 := A110.keep KD119
  have C121 := F110_value.keep KD119 nin0
  have C122 := F110_coder.keep KD119 nin0
  have O123 : Old Z n0 h110 := O0.keep K110 all0
  have O124 : Old Z n0 h111 := O123.keep K111 all0
  have O125 : Old Z n0 h113 := O124.keep K113 (allS (by omega) (all0))
  have O126 : Old Z n0 h115 := O125.keep K115 (allS (by omega) (all0))
  obtain ⟨_, _, ⟨T116, L116, k116, n116⟩, -, X116, ⟨Lc116, hQ116, l116, y116, z116⟩, st116⟩ := X115.specialBack hx (y := mN56) rfl hown (mvT hZ (tw hw 4 rfl)) (mvT hZ (tw hw 5 rfl)) (mvT hZ (tw hw 6 rfl)) (by decide) (StrChars.Road.backV (W := 1) hZ hws (kI := 4) (tw hw 1 rfl) (cs := ([c5, c6] : List Int32)) (bs := ([c5, c6] : List Int32).map (fun c => c.toInt8.toInt32)) (n := 2) (by omega : @LE.le Nat _ n0 b110) (by omega) C120 C121 C122 V115 (Sta.ext O126.2 S_CS) c_CS rfl rfl (by decide) (by decide) hL117 rfl (by decide) (by decide)) (g := (mkF m 85 #[vI p1, vI p2, vI p3, vI p4, vI p5, vI c5, vI c6, vI c7, vI c8, vI c9, vI c10, vI 0, .unset, .unset, .unset, .unset, .unset, .unset, .unset, .unset, .unset, .unset, .unset] [(.ref b111), (.ref b110), (.ref b110)])) rfl (by rw [hml]; rfl) (Steps.refl _) (a := b110) (argsL := [(.ref b111)]) (rest := [(.ref b110)]) (lenOf pd_0 rfl) rfl (wL _) (hb hby at_85) (fun _ _ => ⟨rfl, e115, (by decide : 2 + 1 ≤ _), (by decide : 6 + 2 ≤ _)⟩)
  dsimp only [Pt.U, Pt.locs, Pt.cells, Pt.slots] at X116 l116 y116 z116 st116 hQ116
  rw [l116] at X116
  subst y116 z116
  obtain ⟨rfl, N116q, K116, E116, C116, t116, kb116, ge116, gh116, tx116, Vf116, Av116⟩ := hQ116
  have lt116 : @LT.lt Nat _ t116 T116.heap.size := Av116.lt
  have Sf127 : Safe Z EL1 s.vm h0 b110 := Safe.new (by omega)
  have Sf128 := Safe.keep K110 sf0 CR0.1 Sf127
  have Sf129 := Safe.keep K111 sf0 cR1_K110.1 Sf128
  have Sf130 := Safe.keep K113 hs3_K113 cR2_K111.1 Sf129
  have Sf131 := Safe.keep K115 hs4_K115 cR3_K113.1 Sf130
  have hs5_K116 : ∀ zz ∈ ([b110] : List Addr), Safe Z EL1 s.vm h115 zz := sfS Sf131 (sf0)
  have cR5_K116 := cR4_K115.trans (CHr.keep K116 hs5_K116 cR4_K115.1)
  have sz5_K116 := K116.1
  have gt116_ : @Ne Nat t116 b110 := tx116
  have N116 := Fr.app N115 N116q
  obtain ⟨T132, h132, X132, e132, E132, A132, D132, -, st132⟩ := newO X116 hx hZ hown (tw hw 0 rfl) (tw hw 1 rfl) (tw hw 2 rfl) rfl (g := (mkF m 90 #[vI p1, vI p2, vI p3, vI p4, vI p5, vI c5, vI c6, vI c7, vI c8, vI c9, vI c10, vI 0, vR b110, .unset, .unset, .unset, .unset, .unset, .unset, .unset, .unset, .unset, .unset] [])) rfl (hb hby at_90) (by decide) (by decide)
  obtain ⟨b132, g132⟩ : ∃ z, z = T116.heap.size := ⟨_, rfl⟩
  rw [← g132] at A132 D132 st132
  have lt132 : @LT.lt Nat _ b132 h132.size := A132.lt
  have K132 : Keep T116.heap h132 [] := (Keep.refl _ _).ext E132
  have cR6_K132 := cR5_K116.trans (CHr.keep K132 sf0 cR5_K116.1)
  have sz6_K132 := K132.1
  have F132_coder : Fld Z h132 b132 "java/lang/String" "coder" "B" (.int 0) := D132 (Or.inr (tw hw 27 rfl)) (ty := .byte) (by decide)
  have F132_value : Fld Z h132 b132 "java/lang/String" "value" "[B" .null := D132 (Or.inr (tw hw 29 rfl)) (ty := (.array .byte)) (by decide)
  obtain ⟨T133, h133, k133, X133, e133, E133, A133, st133⟩ := newP X132 hx hZ (tw hw 3 rfl) e132 (g := (mkF m 95 #[vI p1, vI p2, vI p3, vI p4, vI p5, vI c5, vI c6, vI c7, vI c8, vI c9, vI c10, vI 0, vR b110, .unset, .unset, .unset, .unset, .unset, .unset, .unset, .unset, .unset, .unset] [(.int 2), (.ref b132), (.ref b132)])) rfl (hb hby at_95) rfl (by decide) (cap := 2) (by decide) (by decide) (by decide) (by decide)
  obtain ⟨b133, g133⟩ : ∃ z, z = h132.size := ⟨_, rfl⟩
  rw [← g133] at A133 st133
  have V133 : Arv Z h133 b133 k133 .char (2 : Int32) [(.int 0), (.int 0)] (.int 0) := (Arv.new A133 (by decide)).pad (pad_rep [] (.int 0) 2)
  have lt133 : @LT.lt Nat _ b133 h133.size := V133.lt
  have K133 : Keep h132 h133 [] := (Keep.refl _ _).ext E133
  have cR7_K133 := cR6_K132.trans (CHr.keep K133 sf0 cR6_K132.1)
  have sz7_K133 := K133.1
  obtain ⟨cl134, Ar134, q134, S134, Nn134, H134, G134⟩ := id V133
  obtain ⟨T135, h135, X135, e135, W135, st135⟩ := stC X133 hx hZ e133 Ar134 (j := (0 : Int32)) (inb_of S134 ⟨by decide, by decide⟩) (g := (mkF m 101 #[vI p1, vI p2, vI p3, vI p4, vI p5, vI c5, vI c6, vI c7, vI c8, vI c9, vI c10, vI 0, vR b110, .unset, .unset, .unset, .unset, .unset, .unset, .unset, .unset, .unset, .unset] [(.int c7), (.int 0), (.ref b133), (.ref b133), (.ref b132), (.ref b132)])) rfl rfl (hb hby at_101)
  rw [own_nc (own_c255 rc7)] at W135
  have V135 : Arv Z h135 b133 k133 .char (2 : Int32) [(.int c7), (.int 0)] (.int 0) := Arv.set Ar134 q134 S134 Nn134 H134 G134 (own_fitc (own_c255 rc7)) W135 0 rfl (Nat.le_of_ble_eq_true rfl)
  have K135 := Keep.of_wr W135
  have N135 := Fr.snoc X135 N116 (by omega : @LE.le Nat _ n0 b133)
  have hs8_K135 : ∀ zz ∈ ([b133] : List Addr), Safe Z EL1 s.vm h133 zz := sfS (Safe.arv hZ.alike V133 (by decide)) (sf0)
  have cR8_K135 := cR7_K133.trans (CHr.keep K135 hs8_K135 cR7_K133.1)
  have sz8_K135 := K135.1
  obtain ⟨cl136, Ar136, q136, S136, Nn136, H136, G136⟩ := id V135
  obtain ⟨T137, h137, X137, e137, W137, st137⟩ := stC X135 hx hZ e135 Ar136 (j := (1 : Int32)) (inb_of S136 ⟨by decide, by decide⟩) (g := (mkF m 106 #[vI p1, vI p2, vI p3, vI p4, vI p5, vI c5, vI c6, vI c7, vI c8, vI c9, vI c10, vI 0, vR b110, .unset, .unset, .unset, .unset, .unset, .unset, .unset, .unset, .unset, .unset] [(.int c8), (.int 1), (.ref b133), (.ref b133), (.ref b132), (.ref b132)])) rfl rfl (hb hby at_106)
  rw [own_nc (own_c255 rc8)] at W137
  have V137 : Arv Z h137 b133 k133 .char (2 : Int32) [(.int c7), (.int c8)] (.int 0) := Arv.set Ar136 q136 S136 Nn136 H136 G136 (own_fitc (own_c255 rc8)) W137 1 rfl (Nat.le_of_ble_eq_true rfl)
  have K137 := Keep.of_wr W137
  have N137 := Fr.snoc X137 N135 (by omega : @LE.le Nat _ n0 b133)
  have hs9_K137 : ∀ zz ∈ ([b133] : List Addr), Safe Z EL1 s.vm h135 zz := sfS (Safe.arv hZ.alike V135 (by decide)) (sf0)
  have cR9_K137 := cR8_K135.trans (CHr.keep K137 hs9_K137 cR8_K135.1)
  have sz9_K137 := K137.1
  have hL139 : ∀ c ∈ ([c7, c8] : List Int32), ¬ c < 0 ∧ ¬ (255 : Int32) < c := by intro c hc; simp only [List.mem_cons, List.not_mem_nil, or_false] at hc; rcases hc with rfl | rfl <;> first | decide | exact rc7 | exact rc8
  have KD140 : Keep h132 h135 [] := ((Keep.refl _ _).trans K133 (all0)).trans K135 (allS (Or.inr (by omega)) (all0))
  have KD141 : Keep h132 h137 [] := ((Keep.refl _ _).trans KD140 (all0)).trans K137 (allS (Or.inr (by omega)) (all0))
  have C142 := A132.keep KD141
  have C143 := F132_value.keep KD141 nin0
  have C144 := F132_coder.keep KD141 nin0
  have O145 : Old Z n0 T116.heap := O126.keep K116 (allS (by omega) (all0))
  have O146 : Old Z n0 h132 := O145.keep K132 all0
  have O147 : Old Z n0 h133 := O146.keep K133 all0
  have O148 : Old Z n0 h135 := O147.keep K135 (allS (by omega) (all0))
  have O149 : Old Z n0 h137 := O148.keep K137 (allS (by omega) (all0))
  obtain ⟨_, _, ⟨T138, L138, k138, n138⟩, -, X138, ⟨Lc138, hQ138, l138, y138, z138⟩, st138⟩ := X137.specialBack hx (y := mN56) rfl hown (mvT hZ (tw hw 4 rfl)) (mvT hZ (tw hw 5 rfl)) (mvT hZ (tw hw 6 rfl)) (by decide) (StrChars.Road.backV (W := 1) hZ hws (kI := 4) (tw hw 1 rfl) (cs := ([c7, c8] : List Int32)) (bs := ([c7, c8] : List Int32).map (fun c => c.toInt8.toInt32)) (n := 2) (by omega : @LE.le Nat _ n0 b132) (by omega) C142 C143 C144 V137 (Sta.ext O149.2 S_CS) c_CS rfl rfl (by decide) (by decide) hL139 rfl (by decide) (by decide)) (g := (mkF m 107 #[vI p1, vI p2, vI p3, vI p4, vI p5, vI c5, vI c6, vI c7, vI c8, vI c9, vI c10, vI 0, vR b110, .unset, .unset, .unset, .unset, .unset, .unset, .unset, .unset, .unset, .unset] [(.ref b133), (.ref b132), (.ref b132)])) rfl (by rw [hml]; rfl) (Steps.refl _) (a := b132) (argsL := [(.ref b133)]) (rest := [(.ref b132)]) (lenOf pd_0 rfl) rfl (wL _) (hb hby at_107) (fun _ _ => ⟨rfl, e137, (by decide : 5 + 1 ≤ _), (by decide : 14 + 2 ≤ _)⟩)
  dsimp only [Pt.U, Pt.locs, Pt.cells, Pt.slots] at X138 l138 y138 z138 st138 hQ138
  rw [l138] at X138
  subst y138 z138
  obtain ⟨rfl, N138q, K138, E138, C138, t138, kb138, ge138, gh138, tx138, Vf138, Av138⟩ := hQ138
  have lt138 : @LT.lt Nat _ t138 T138.heap.size := Av138.lt
  have Sf150 : Safe Z EL1 s.vm T116.heap b132 := Safe.new (by omega)
  have Sf151 := Safe.keep K132 sf0 cR5_K116.1 Sf150
  have Sf152 := Safe.keep K133 sf0 cR6_K132.1 Sf151
  have Sf153 := Safe.keep K135 hs8_K135 cR7_K133.1 Sf152
  have Sf154 := Safe.keep K137 hs9_K137 cR8_K135.1 Sf153
  have hs10_K138 : ∀ zz ∈ ([b132] : List Addr), Safe Z EL1 s.vm h137 zz := sfS Sf154 (sf0)
  have cR10_K138 := cR9_K137.trans (CHr.keep K138 hs10_K138 cR9_K137.1)
  have sz10_K138 := K138.1
  have gt138_ : @Ne Nat t138 b132 := tx138
  have N138 := Fr.app N137 N138q
  have O156 : Old Z n0 T138.heap := O149.keep K138 (allS (by omega) (all0))
  obtain ⟨_, _, ⟨T155, L155, k155, n155⟩, -, X155, ⟨Lc155, hQ155, l155, y155, z155⟩, st155⟩ := Jvm.LawKit.callS X138 hx (y := mN55) hown (mvT hZ (tw hw 30 rfl)) (mvT hZ (tw hw 31 rfl)) (mvT hZ (tw hw 2 rfl)) (mvT hZ (tw hw 32 rfl)) (by decide) (backOf (W := 0) (rm7 l Z a0 hw [] c9 cs0 T138.heap n0 O156 S_CS c_CS rc9.2) hZ (tw hw 32 rfl) (tw hw 2 rfl) (by decide) (by decide)) (g := (mkF m 114 #[vI p1, vI p2, vI p3, vI p4, vI p5, vI c5, vI c6, vI c7, vI c8, vI c9, vI c10, vI 0, vR b110, vR b132, .unset, .unset, .unset, .unset, .unset, .unset, .unset, .unset, .unset] [(.int c9)])) rfl (by rw [hml]; rfl) (argsL := [(.int c9)]) (rest := []) (lenOf pd_6 rfl) rfl (wL _) (hb hby at_114) (fun _ _ => ⟨rfl, rfl, (by decide : 6 + 2 ≤ _), (by decide : 16 + 5 ≤ _)⟩)
  dsimp only [Pt.U, Pt.locs, Pt.cells, Pt.slots] at X155 l155 y155 z155 st155 hQ155
  rw [l155] at X155
  subst y155 z155
  obtain ⟨x155, t155, kb155, rfl, N155q, K155, gx155, gt155, tx155, E155, C155, F155, V155⟩ := hQ155
  have ltx155 : @LT.lt Nat _ x155 T155.heap.size := E155.lt
  have ltt155 : @LT.lt Nat _ t155 T155.heap.size := V155.lt
  have cR11_K155 := cR10_K138.trans (CHr.keep K155 sf0 cR10_K138.1)
  have sz11_K155 := K155.1
  have N155 := Fr.app N138 N155q
  obtain ⟨b157, T157, h157, k157, t157, kb157, X157, e157, E157, hS157, hk157, hZ157, hown157, Ea157, Fc157, Fv157, Av157, la157, lb157, CR157, Li157, nq157, st157⟩ := ldcCH (s := s) (vm0 := s.vm) X155 hx hZ hown (tw hw 44 rfl) wStr rfl hS0 (by omega) hEW (by simp [EL1]) cR11_K155.1 (vs := (([] : List Int32).map Value.int)) (z := (Int32.ofNat ([] : List Int32).length)) ⟨by decide, by decide⟩ (by decide) (by decide) (g := (mkF m 132 #[vI p1, vI p2, vI p3, vI p4, vI p5, vI c5, vI c6, vI c7, vI c8, vI c9, vI c10, vI 0, vR b110, vR b132, vR x155, .unset, .unset, .unset, .unset, .unset, .unset, .unset, .unset] [])) rfl (hb hby at_132) (n := 0) (by decide) (by decide) (by decide) (by decide)
  have lta157 : @LT.lt Nat _ b157 h157.size := la157
  have ltb157 : @LT.lt Nat _ t157 h157.size := lb157
  have K157 : Keep T155.heap h157 [] := (Keep.refl _ _).ext E157
  have cR12_K157 := cR11_K155.trans CR157
  have sz12_K157 := K157.1
  obtain ⟨T158, h158, X158, e158, E158, A158, D158, -, st158⟩ := newO X157 hx hZ157 hown157 (tw hw 0 rfl) (tw hw 1 rfl) (tw hw 2 rfl) e157 (g := (mkF m 136 #[vI p1, vI p2, vI p3, vI p4, vI p5, vI c5, vI c6, vI c7, vI c8, vI c9, vI c10, vI 0, vR b110, vR b132, vR x155, vR b157, .unset, .unset, .unset, .unset, .unset, .unset, .unset] [])) rfl (hb hby at_136) (by decide) (by decide)
  obtain ⟨b158, g158⟩ : ∃ z, z = h157.size := ⟨_, rfl⟩
  rw [← g158] at A158 D158 st158
  have lt158 : @LT.lt Nat _ b158 h158.size := A158.lt
  have K158 : Keep h157 h158 [] := (Keep.refl _ _).ext E158
  have cR13_K158 := cR12_K157.trans (CHr.keep K158 sf0 cR12_K157.1)
  have sz13_K158 := K158.1
  have F158_coder : Fld Z h158 b158 "java/lang/String" "coder" "B" (.int 0) := D158 (Or.inr (tw hw 27 rfl)) (ty := .byte) (by decide)
  have F158_value : Fld Z h158 b158 "java/lang/String" "value" "[B" .null := D158 (Or.inr (tw hw 29 rfl)) (ty := (.array .byte)) (by decide)
  obtain ⟨T159, h159, k159, X159, e159, E159, A159, st159⟩ := newP X158 hx hZ157 (tw hw 3 rfl) e158 (g := (mkF m 142 #[vI p1, vI p2, vI p3, vI p4, vI p5, vI c5, vI c6, vI c7, vI c8, vI c9, vI c10, vI 0, vR b110, vR b132, vR x155, vR b157, .unset, .unset, .unset, .unset, .unset, .unset, .unset] [(.int 13), (.ref b158), (.ref b158)])) rfl (hb hby at_142) rfl (by decide) (cap := 13) (by decide) (by decide) (by decide) (by decide)
  obtain ⟨b159, g159⟩ : ∃ z, z = h158.size := ⟨_, rfl⟩
  rw [← g159] at A159 st159
  have V159 : Arv Z h159 b159 k159 .char (13 : Int32) [(.int 0), (.int 0), (.int 0), (.int 0), (.int 0), (.int 0), (.int 0), (.int 0), (.int 0), (.int 0), (.int 0), (.int 0), (.int 0)] (.int 0) := (Arv.new A159 (by decide)).pad (pad_rep [] (.int 0) 13)
  have lt159 : @LT.lt Nat _ b159 h159.size := V159.lt
  have K159 : Keep h158 h159 [] := (Keep.refl _ _).ext E159
  have cR14_K159 := cR13_K158.trans (CHr.keep K159 sf0 cR13_K158.1)
  have sz14_K159 := K159.1
  obtain ⟨cl160, Ar160, q160, S160, Nn160, H160, G160⟩ := id V159
  obtain ⟨T161, h161, X161, e161, W161, st161⟩ := stC X159 hx hZ157 e159 Ar160 (j := (0 : Int32)) (inb_of S160 ⟨by decide, by decide⟩) (g := (mkF m 148 #[vI p1, vI p2, vI p3, vI p4, vI p5, vI c5, vI c6, vI c7, vI c8, vI c9, vI c10, vI 0, vR b110, vR b132, vR x155, vR b157, .unset, .unset, .unset, .unset, .unset, .unset, .unset] [(.int 101), (.int 0), (.ref b159), (.ref b159), (.ref b158), (.ref b158)])) rfl rfl (hb hby at_148)
  rw [own_nc (show ¬ (101 : Int32) < 0 ∧ ¬ (65535 : Int32) < (101 : Int32) by decide)] at W161
  have V161 : Arv Z h161 b159 k159 .char (13 : Int32) [(.int 101), (.int 0), (.int 0), (.int 0), (.int 0), (.int 0), (.int 0), (.int 0), (.int 0), (.int 0), (.int 0), (.int 0), (.int 0)] (.int 0) := Arv.set Ar160 q160 S160 Nn160 H160 G160 (own_fitc (show ¬ (101 : Int32) < 0 ∧ ¬ (65535 : Int32) < (101 : Int32) by decide)) W161 0 rfl (Nat.le_of_ble_eq_true rfl)
  have K161 := Keep.of_wr W161
  have N161 := Fr.snoc X161 N155 (by omega : @LE.le Nat _ n0 b159)
  have hs15_K161 : ∀ zz ∈ ([b159] : List Addr), Safe Z EL1 T157.vm h159 zz := sfS (Safe.arv hZ157.alike V159 (by decide)) (sf0)
  have cR15_K161 := cR14_K159.trans (CHr.keep K161 hs15_K161 cR14_K159.1)
  have sz15_K161 := K161.1
  obtain ⟨cl162, Ar162, q162, S162, Nn162, H162, G162⟩ := id V161
  obtain ⟨T163, h163, X163, e163, W163, st163⟩ := stC X161 hx hZ157 e161 Ar162 (j := (1 : Int32)) (inb_of S162 ⟨by decide, by decide⟩) (g := (mkF m 153 #[vI p1, vI p2, vI p3, vI p4, vI p5, vI c5, vI c6, vI c7, vI c8, vI c9, vI c10, vI 0, vR b110, vR b132, vR x155, vR b157, .unset, .unset, .unset, .unset, .unset, .unset, .unset] [(.int 114), (.int 1), (.ref b159), (.ref b159), (.ref b158), (.ref b158)])) rfl rfl (hb hby at_153)
  rw [own_nc (show ¬ (114 : Int32) < 0 ∧ ¬ (65535 : Int32) < (114 : Int32) by decide)] at W163
  have V163 : Arv Z h163 b159 k159 .char (13 : Int32) [(.int 101), (.int 114), (.int 0), (.int 0), (.int 0), (.int 0), (.int 0), (.int 0), (.int 0), (.int 0), (.int 0), (.int 0), (.int 0)] (.int 0) := Arv.set Ar162 q162 S162 Nn162 H162 G162 (own_fitc (show ¬ (114 : Int32) < 0 ∧ ¬ (65535 : Int32) < (114 : Int32) by decide)) W163 1 rfl (Nat.le_of_ble_eq_true rfl)
  have K163 := Keep.of_wr W163
  have N163 := Fr.snoc X163 N161 (by omega : @LE.le Nat _ n0 b159)
  have hs16_K163 : ∀ zz ∈ ([b159] : List Addr), Safe Z EL1 T157.vm h161 zz := sfS (Safe.arv hZ157.alike V161 (by decide)) (sf0)
  have cR16_K163 := cR15_K161.trans (CHr.keep K163 hs16_K163 cR15_K161.1)
  have sz16_K163 := K163.1
  obtain ⟨cl164, Ar164, q164, S164, Nn164, H164, G164⟩ := id V163
  obtain ⟨T165, h165, X165, e165, W165, st165⟩ := stC X163 hx hZ157 e163 Ar164 (j := (2 : Int32)) (inb_of S164 ⟨by decide, by decide⟩) (g := (mkF m 158 #[vI p1, vI p2, vI p3, vI p4, vI p5, vI c5, vI c6, vI c7, vI c8, vI c9, vI c10, vI 0, vR b110, vR b132, vR x155, vR b157, .unset, .unset, .unset, .unset, .unset, .unset, .unset] [(.int 114), (.int 2), (.ref b159), (.ref b159), (.ref b158), (.ref b158)])) rfl rfl (hb hby at_158)
  rw [own_nc (show ¬ (114 : Int32) < 0 ∧ ¬ (65535 : Int32) < (114 : Int32) by decide)] at W165
  have V165 : Arv Z h165 b159 k159 .char (13 : Int32) [(.int 101), (.int 114), (.int 114), (.int 0), (.int 0), (.int 0), (.int 0), (.int 0), (.int 0), (.int 0), (.int 0), (.int 0), (.int 0)] (.int 0) := Arv.set Ar164 q164 S164 Nn164 H164 G164 (own_fitc (show ¬ (114 : Int32) < 0 ∧ ¬ (65535 : Int32) < (114 : Int32) by decide)) W165 2 rfl (Nat.le_of_ble_eq_true rfl)
  have K165 := Keep.of_wr W165
  have N165 := Fr.snoc X165 N163 (by omega : @LE.le Nat _ n0 b159)
  have hs17_K165 : ∀ zz ∈ ([b159] : List Addr), Safe Z EL1 T157.vm h163 zz := sfS (Safe.arv hZ157.alike V163 (by decide)) (sf0)
  have cR17_K165 := cR16_K163.trans (CHr.keep K165 hs17_K165 cR16_K163.1)
  have sz17_K165 := K165.1
  obtain ⟨cl166, Ar166, q166, S166, Nn166, H166, G166⟩ := id V165
  obtain ⟨T167, h167, X167, e167, W167, st167⟩ := stC X165 hx hZ157 e165 Ar166 (j := (3 : Int32)) (inb_of S166 ⟨by decide, by decide⟩) (g := (mkF m 163 #[vI p1, vI p2, vI p3, vI p4, vI p5, vI c5, vI c6, vI c7, vI c8, vI c9, vI c10, vI 0, vR b110, vR b132, vR x155, vR b157, .unset, .unset, .unset, .unset, .unset, .unset, .unset] [(.int 111), (.int 3), (.ref b159), (.ref b159), (.ref b158), (.ref b158)])) rfl rfl (hb hby at_163)
  rw [own_nc (show ¬ (111 : Int32) < 0 ∧ ¬ (65535 : Int32) < (111 : Int32) by decide)] at W167
  have V167 : Arv Z h167 b159 k159 .char (13 : Int32) [(.int 101), (.int 114), (.int 114), (.int 111), (.int 0), (.int 0), (.int 0), (.int 0), (.int 0), (.int 0), (.int 0), (.int 0), (.int 0)] (.int 0) := Arv.set Ar166 q166 S166 Nn166 H166 G166 (own_fitc (show ¬ (111 : Int32) < 0 ∧ ¬ (65535 : Int32) < (111 : Int32) by decide)) W167 3 rfl (Nat.le_of_ble_eq_true rfl)
  have K167 := Keep.of_wr W167
  have N167 := Fr.snoc X167 N165 (by omega : @LE.le Nat _ n0 b159)
  have hs18_K167 : ∀ zz ∈ ([b159] : List Addr), Safe Z EL1 T157.vm h165 zz := sfS (Safe.arv hZ157.alike V165 (by decide)) (sf0)
  have cR18_K167 := cR17_K165.trans (CHr.keep K167 hs18_K167 cR17_K165.1)
  have sz18_K167 := K167.1
  obtain ⟨cl168, Ar168, q168, S168, Nn168, H168, G168⟩ := id V167
  obtain ⟨T169, h169, X169, e169, W169, st169⟩ := stC X167 hx hZ157 e167 Ar168 (j := (4 : Int32)) (inb_of S168 ⟨by decide, by decide⟩) (g := (mkF m 168 #[vI p1, vI p2, vI p3, vI p4, vI p5, vI c5, vI c6, vI c7, vI c8, vI c9, vI c10, vI 0, vR b110, vR b132, vR x155, vR b157, .unset, .unset, .unset, .unset, .unset, .unset, .unset] [(.int 114), (.int 4), (.ref b159), (.ref b159), (.ref b158), (.ref b158)])) rfl rfl (hb hby at_168)
  rw [own_nc (show ¬ (114 : Int32) < 0 ∧ ¬ (65535 : Int32) < (114 : Int32) by decide)] at W169
  have V169 : Arv Z h169 b159 k159 .char (13 : Int32) [(.int 101), (.int 114), (.int 114), (.int 111), (.int 114), (.int 0), (.int 0), (.int 0), (.int 0), (.int 0), (.int 0), (.int 0), (.int 0)] (.int 0) := Arv.set Ar168 q168 S168 Nn168 H168 G168 (own_fitc (show ¬ (114 : Int32) < 0 ∧ ¬ (65535 : Int32) < (114 : Int32) by decide)) W169 4 rfl (Nat.le_of_ble_eq_true rfl)
  have K169 := Keep.of_wr W169
  have N169 := Fr.snoc X169 N167 (by omega : @LE.le Nat _ n0 b159)
  have hs19_K169 : ∀ zz ∈ ([b159] : List Addr), Safe Z EL1 T157.vm h167 zz := sfS (Safe.arv hZ157.alike V167 (by decide)) (sf0)
  have cR19_K169 := cR18_K167.trans (CHr.keep K169 hs19_K169 cR18_K167.1)
  have sz19_K169 := K169.1
  obtain ⟨cl170, Ar170, q170, S170, Nn170, H170, G170⟩ := id V169
  obtain ⟨T171, h171, X171, e171, W171, st171⟩ := stC X169 hx hZ157 e169 Ar170 (j := (5 : Int32)) (inb_of S170 ⟨by decide, by decide⟩) (g := (mkF m 173 #[vI p1, vI p2, vI p3, vI p4, vI p5, vI c5, vI c6, vI c7, vI c8, vI c9, vI c10, vI 0, vR b110, vR b132, vR x155, vR b157, .unset, .unset, .unset, .unset, .unset, .unset, .unset] [(.int 91), (.int 5), (.ref b159), (.ref b159), (.ref b158), (.ref b158)])) rfl rfl (hb hby at_173)
  rw [own_nc (show ¬ (91 : Int32) < 0 ∧ ¬ (65535 : Int32) < (91 : Int32) by decide)] at W171
  have V171 : Arv Z h171 b159 k159 .char (13 : Int32) [(.int 101), (.int 114), (.int 114), (.int 111), (.int 114), (.int 91), (.int 0), (.int 0), (.int 0), (.int 0), (.int 0), (.int 0), (.int 0)] (.int 0) := Arv.set Ar170 q170 S170 Nn170 H170 G170 (own_fitc (show ¬ (91 : Int32) < 0 ∧ ¬ (65535 : Int32) < (91 : Int32) by decide)) W171 5 rfl (Nat.le_of_ble_eq_true rfl)
  have K171 := Keep.of_wr W171
  have N171 := Fr.snoc X171 N169 (by omega : @LE.le Nat _ n0 b159)
  have hs20_K171 : ∀ zz ∈ ([b159] : List Addr), Safe Z EL1 T157.vm h169 zz := sfS (Safe.arv hZ157.alike V169 (by decide)) (sf0)
  have cR20_K171 := cR19_K169.trans (CHr.keep K171 hs20_K171 cR19_K169.1)
  have sz20_K171 := K171.1
  obtain ⟨cl172, Ar172, q172, S172, Nn172, H172, G172⟩ := id V171
  obtain ⟨T173, h173, X173, e173, W173, st173⟩ := stC X171 hx hZ157 e171 Ar172 (j := (6 : Int32)) (inb_of S172 ⟨by decide, by decide⟩) (g := (mkF m 179 #[vI p1, vI p2, vI p3, vI p4, vI p5, vI c5, vI c6, vI c7, vI c8, vI c9, vI c10, vI 0, vR b110, vR b132, vR x155, vR b157, .unset, .unset, .unset, .unset, .unset, .unset, .unset] [(.int c5), (.int 6), (.ref b159), (.ref b159), (.ref b158), (.ref b158)])) rfl rfl (hb hby at_179)
  rw [own_nc (own_c255 rc5)] at W173
  have V173 : Arv Z h173 b159 k159 .char (13 : Int32) [(.int 101), (.int 114), (.int 114), (.int 111), (.int 114), (.int 91), (.int c5), (.int 0), (.int 0), (.int 0), (.int 0), (.int 0), (.int 0)] (.int 0) := Arv.set Ar172 q172 S172 Nn172 H172 G172 (own_fitc (own_c255 rc5)) W173 6 rfl (Nat.le_of_ble_eq_true rfl)
  have K173 := Keep.of_wr W173
  have N173 := Fr.snoc X173 N171 (by omega : @LE.le Nat _ n0 b159)
  have hs21_K173 : ∀ zz ∈ ([b159] : List Addr), Safe Z EL1 T157.vm h171 zz := sfS (Safe.arv hZ157.alike V171 (by decide)) (sf0)
  have cR21_K173 := cR20_K171.trans (CHr.keep K173 hs21_K173 cR20_K171.1)
  have sz21_K173 := K173.1
  obtain ⟨cl174, Ar174, q174, S174, Nn174, H174, G174⟩ := id V173
  obtain ⟨T175, h175, X175, e175, W175, st175⟩ := stC X173 hx hZ157 e173 Ar174 (j := (7 : Int32)) (inb_of S174 ⟨by decide, by decide⟩) (g := (mkF m 185 #[vI p1, vI p2, vI p3, vI p4, vI p5, vI c5, vI c6, vI c7, vI c8, vI c9, vI c10, vI 0, vR b110, vR b132, vR x155, vR b157, .unset, .unset, .unset, .unset, .unset, .unset, .unset] [(.int c6), (.int 7), (.ref b159), (.ref b159), (.ref b158), (.ref b158)])) rfl rfl (hb hby at_185)
  rw [own_nc (own_c255 rc6)] at W175
  have V175 : Arv Z h175 b159 k159 .char (13 : Int32) [(.int 101), (.int 114), (.int 114), (.int 111), (.int 114), (.int 91), (.int c5), (.int c6), (.int 0), (.int 0), (.int 0), (.int 0), (.int 0)] (.int 0) := Arv.set Ar174 q174 S174 Nn174 H174 G174 (own_fitc (own_c255 rc6)) W175 7 rfl (Nat.le_of_ble_eq_true rfl)
  have K175 := Keep.of_wr W175
  have N175 := Fr.snoc X175 N173 (by omega : @LE.le Nat _ n0 b159)
  have hs22_K175 : ∀ zz ∈ ([b159] : List Addr), Safe Z EL1 T157.vm h173 zz := sfS (Safe.arv hZ157.alike V173 (by decide)) (sf0)
  have cR22_K175 := cR21_K173.trans (CHr.keep K175 hs22_K175 cR21_K173.1)
  have sz22_K175 := K175.1
  obtain ⟨cl176, Ar176, q176, S176, Nn176, H176, G176⟩ := id V175
  obtain ⟨T177, h177, X177, e177, W177, st177⟩ := stC X175 hx hZ157 e175 Ar176 (j := (8 : Int32)) (inb_of S176 ⟨by decide, by decide⟩) (g := (mkF m 191 #[vI p1, vI p2, vI p3, vI p4, vI p5, vI c5, vI c6, vI c7, vI c8, vI c9, vI c10, vI 0, vR b110, vR b132, vR x155, vR b157, .unset, .unset, .unset, .unset, .unset, .unset, .unset] [(.int 93), (.int 8), (.ref b159), (.ref b159), (.ref b158), (.ref b158)])) rfl rfl (hb hby at_191)
  rw [own_nc (show ¬ (93 : Int32) < 0 ∧ ¬ (65535 : Int32) < (93 : Int32) by decide)] at W177
  have V177 : Arv Z h177 b159 k159 .char (13 : Int32) [(.int 101), (.int 114), (.int 114), (.int 111), (.int 114), (.int 91), (.int c5), (.int c6), (.int 93), (.int 0), (.int 0), (.int 0), (.int 0)] (.int 0) := Arv.set Ar176 q176 S176 Nn176 H176 G176 (own_fitc (show ¬ (93 : Int32) < 0 ∧ ¬ (65535 : Int32) < (93 : Int32) by decide)) W177 8 rfl (Nat.le_of_ble_eq_true rfl)
  have K177 := Keep.of_wr W177
  have N177 := Fr.snoc X177 N175 (by omega : @LE.le Nat _ n0 b159)
  have hs23_K177 : ∀ zz ∈ ([b159] : List Addr), Safe Z EL1 T157.vm h175 zz := sfS (Safe.arv hZ157.alike V175 (by decide)) (sf0)
  have cR23_K177 := cR22_K175.trans (CHr.keep K177 hs23_K177 cR22_K175.1)
  have sz23_K177 := K177.1
  obtain ⟨cl178, Ar178, q178, S178, Nn178, H178, G178⟩ := id V177
  obtain ⟨T179, h179, X179, e179, W179, st179⟩ := stC X177 hx hZ157 e177 Ar178 (j := (9 : Int32)) (inb_of S178 ⟨by decide, by decide⟩) (g := (mkF m 197 #[vI p1, vI p2, vI p3, vI p4, vI p5, vI c5, vI c6, vI c7, vI c8, vI c9, vI c10, vI 0, vR b110, vR b132, vR x155, vR b157, .unset, .unset, .unset, .unset, .unset, .unset, .unset] [(.int 58), (.int 9), (.ref b159), (.ref b159), (.ref b158), (.ref b158)])) rfl rfl (hb hby at_197)
  rw [own_nc (show ¬ (58 : Int32) < 0 ∧ ¬ (65535 : Int32) < (58 : Int32) by decide)] at W179
  have V179 : Arv Z h179 b159 k159 .char (13 : Int32) [(.int 101), (.int 114), (.int 114), (.int 111), (.int 114), (.int 91), (.int c5), (.int c6), (.int 93), (.int 58), (.int 0), (.int 0), (.int 0)] (.int 0) := Arv.set Ar178 q178 S178 Nn178 H178 G178 (own_fitc (show ¬ (58 : Int32) < 0 ∧ ¬ (65535 : Int32) < (58 : Int32) by decide)) W179 9 rfl (Nat.le_of_ble_eq_true rfl)
  have K179 := Keep.of_wr W179
  have N179 := Fr.snoc X179 N177 (by omega : @LE.le Nat _ n0 b159)
  have hs24_K179 : ∀ zz ∈ ([b159] : List Addr), Safe Z EL1 T157.vm h177 zz := sfS (Safe.arv hZ157.alike V177 (by decide)) (sf0)
  have cR24_K179 := cR23_K177.trans (CHr.keep K179 hs24_K179 cR23_K177.1)
  have sz24_K179 := K179.1
  obtain ⟨cl180, Ar180, q180, S180, Nn180, H180, G180⟩ := id V179
  obtain ⟨T181, h181, X181, e181, W181, st181⟩ := stC X179 hx hZ157 e179 Ar180 (j := (10 : Int32)) (inb_of S180 ⟨by decide, by decide⟩) (g := (mkF m 203 #[vI p1, vI p2, vI p3, vI p4, vI p5, vI c5, vI c6, vI c7, vI c8, vI c9, vI c10, vI 0, vR b110, vR b132, vR x155, vR b157, .unset, .unset, .unset, .unset, .unset, .unset, .unset] [(.int 32), (.int 10), (.ref b159), (.ref b159), (.ref b158), (.ref b158)])) rfl rfl (hb hby at_203)
  rw [own_nc (show ¬ (32 : Int32) < 0 ∧ ¬ (65535 : Int32) < (32 : Int32) by decide)] at W181
  have V181 : Arv Z h181 b159 k159 .char (13 : Int32) [(.int 101), (.int 114), (.int 114), (.int 111), (.int 114), (.int 91), (.int c5), (.int c6), (.int 93), (.int 58), (.int 32), (.int 0), (.int 0)] (.int 0) := Arv.set Ar180 q180 S180 Nn180 H180 G180 (own_fitc (show ¬ (32 : Int32) < 0 ∧ ¬ (65535 : Int32) < (32 : Int32) by decide)) W181 10 rfl (Nat.le_of_ble_eq_true rfl)
  have K181 := Keep.of_wr W181
  have N181 := Fr.snoc X181 N179 (by omega : @LE.le Nat _ n0 b159)
  have hs25_K181 : ∀ zz ∈ ([b159] : List Addr), Safe Z EL1 T157.vm h179 zz := sfS (Safe.arv hZ157.alike V179 (by decide)) (sf0)
  have cR25_K181 := cR24_K179.trans (CHr.keep K181 hs25_K181 cR24_K179.1)
  have sz25_K181 := K181.1
  obtain ⟨cl182, Ar182, q182, S182, Nn182, H182, G182⟩ := id V181
  obtain ⟨T183, h183, X183, e183, W183, st183⟩ := stC X181 hx hZ157 e181 Ar182 (j := (11 : Int32)) (inb_of S182 ⟨by decide, by decide⟩) (g := (mkF m 209 #[vI p1, vI p2, vI p3, vI p4, vI p5, vI c5, vI c6, vI c7, vI c8, vI c9, vI c10, vI 0, vR b110, vR b132, vR x155, vR b157, .unset, .unset, .unset, .unset, .unset, .unset, .unset] [(.int c7), (.int 11), (.ref b159), (.ref b159), (.ref b158), (.ref b158)])) rfl rfl (hb hby at_209)
  rw [own_nc (own_c255 rc7)] at W183
  have V183 : Arv Z h183 b159 k159 .char (13 : Int32) [(.int 101), (.int 114), (.int 114), (.int 111), (.int 114), (.int 91), (.int c5), (.int c6), (.int 93), (.int 58), (.int 32), (.int c7), (.int 0)] (.int 0) := Arv.set Ar182 q182 S182 Nn182 H182 G182 (own_fitc (own_c255 rc7)) W183 11 rfl (Nat.le_of_ble_eq_true rfl)
  have K183 := Keep.of_wr W183
  have N183 := Fr.snoc X183 N181 (by omega : @LE.le Nat _ n0 b159)
  have hs26_K183 : ∀ zz ∈ ([b159] : List Addr), Safe Z EL1 T157.vm h181 zz := sfS (Safe.arv hZ157.alike V181 (by decide)) (sf0)
  have cR26_K183 := cR25_K181.trans (CHr.keep K183 hs26_K183 cR25_K181.1)
  have sz26_K183 := K183.1
  obtain ⟨cl184, Ar184, q184, S184, Nn184, H184, G184⟩ := id V183
  obtain ⟨T185, h185, X185, e185, W185, st185⟩ := stC X183 hx hZ157 e183 Ar184 (j := (12 : Int32)) (inb_of S184 ⟨by decide, by decide⟩) (g := (mkF m 215 #[vI p1, vI p2, vI p3, vI p4, vI p5, vI c5, vI c6, vI c7, vI c8, vI c9, vI c10, vI 0, vR b110, vR b132, vR x155, vR b157, .unset, .unset, .unset, .unset, .unset, .unset, .unset] [(.int c8), (.int 12), (.ref b159), (.ref b159), (.ref b158), (.ref b158)])) rfl rfl (hb hby at_215)
  rw [own_nc (own_c255 rc8)] at W185
  have V185 : Arv Z h185 b159 k159 .char (13 : Int32) [(.int 101), (.int 114), (.int 114), (.int 111), (.int 114), (.int 91), (.int c5), (.int c6), (.int 93), (.int 58), (.int 32), (.int c7), (.int c8)] (.int 0) := Arv.set Ar184 q184 S184 Nn184 H184 G184 (own_fitc (own_c255 rc8)) W185 12 rfl (Nat.le_of_ble_eq_true rfl)
  have K185 := Keep.of_wr W185
  have N185 := Fr.snoc X185 N183 (by omega : @LE.le Nat _ n0 b159)
  have hs27_K185 : ∀ zz ∈ ([b159] : List Addr), Safe Z EL1 T157.vm h183 zz := sfS (Safe.arv hZ157.alike V183 (by decide)) (sf0)
  have cR27_K185 := cR26_K183.trans (CHr.keep K185 hs27_K185 cR26_K183.1)
  have sz27_K185 := K185.1
  have hL187 : ∀ c ∈ ([(101 : Int32), (114 : Int32), (114 : Int32), (111 : Int32), (114 : Int32), (91 : Int32), c5, c6, (93 : Int32), (58 : Int32), (32 : Int32), c7, c8] : List Int32), ¬ c < 0 ∧ ¬ (255 : Int32) < c := by intro c hc; simp only [List.mem_cons, List.not_mem_nil, or_false] at hc; rcases hc with rfl | rfl | rfl | rfl | rfl | rfl | rfl | rfl | rfl | rfl | rfl | rfl | rfl <;> first | decide | exact rc5 | exact rc6 | exact rc7 | exact rc8
  have KD188 : Keep h158 h161 [] := ((Keep.refl _ _).trans K159 (all0)).trans K161 (allS (Or.inr (by omega)) (all0))
  have KD189 : Keep h158 h163 [] := ((Keep.refl _ _).trans KD188 (all0)).trans K163 (allS (Or.inr (by omega)) (all0))
  have KD190 : Keep h158 h165 [] := ((Keep.refl _ _).trans KD189 (all0)).trans K165 (allS (Or.inr (by omega)) (all0))
  have KD191 : Keep h158 h167 [] := ((Keep.refl _ _).trans KD190 (all0)).trans K167 (allS (Or.inr (by omega)) (all0))
  have KD192 : Keep h158 h169 [] := ((Keep.refl _ _).trans KD191 (all0)).trans K169 (allS (Or.inr (by omega)) (all0))
  have KD193 : Keep h158 h171 [] := ((Keep.refl _ _).trans KD192 (all0)).trans K171 (allS (Or.inr (by omega)) (all0))
  have KD194 : Keep h158 h173 [] := ((Keep.refl _ _).trans KD193 (all0)).trans K173 (allS (Or.inr (by omega)) (all0))
  have KD195 : Keep h158 h175 [] := ((Keep.refl _ _).trans KD194 (all0)).trans K175 (allS (Or.inr (by omega)) (all0))
  have KD196 : Keep h158 h177 [] := ((Keep.refl _ _).trans KD195 (all0)).trans K177 (allS (Or.inr (by omega)) (all0))
  have KD197 : Keep h158 h179 [] := ((Keep.refl _ _).trans KD196 (all0)).trans K179 (allS (Or.inr (by omega)) (all0))
  have KD198 : Keep h158 h181 [] := ((Keep.refl _ _).trans KD197 (all0)).trans K181 (allS (Or.inr (by omega)) (all0))
  have KD199 : Keep h158 h183 [] := ((Keep.refl _ _).trans KD198 (all0)).trans K183 (allS (Or.inr (by omega)) (all0))
  have KD200 : Keep h158 h185 [] := ((Keep.refl _ _).trans KD199 (all0)).trans K185 (allS (Or.inr (by omega)) (all0))
  have C201 := A158.keep KD200
  have C202 := F158_value.keep KD200 nin0
  have C203 := F158_coder.keep KD200 nin0
  have O204 : Old Z n0 T155.heap := O156.keep K155 all0
  have O205 : Old Z n0 h157 := O204.keep K157 all0
  have O206 : Old Z n0 h158 := O205.keep K158 all0
  have O207 : Old Z n0 h159 := O206.keep K159 all0
  have O208 : Old Z n0 h161 := O207.keep K161 (allS (by omega) (all0))
  have O209 : Old Z n0 h163 := O208.keep K163 (allS (by omega) (all0))
  have O210 : Old Z n0 h165 := O209.keep K165 (allS (by omega) (all0))
  have O211 : Old Z n0 h167 := O210.keep K167 (allS (by omega) (all0))
  have O212 : Old Z n0 h169 := O211.keep K169 (allS (by omega) (all0))
  have O213 : Old Z n0 h171 := O212.keep K171 (allS (by omega) (all0))
  have O214 : Old Z n0 h173 := O213.keep K173 (allS (by omega) (all0))
  have O215 : Old Z n0 h175 := O214.keep K175 (allS (by omega) (all0))
  have O216 : Old Z n0 h177 := O215.keep K177 (allS (by omega) (all0))
  have O217 : Old Z n0 h179 := O216.keep K179 (allS (by omega) (all0))
  have O218 : Old Z n0 h181 := O217.keep K181 (allS (by omega) (all0))
  have O219 : Old Z n0 h183 := O218.keep K183 (allS (by omega) (all0))
  have O220 : Old Z n0 h185 := O219.keep K185 (allS (by omega) (all0))
  obtain ⟨_, _, ⟨T186, L186, k186, n186⟩, -, X186, ⟨Lc186, hQ186, l186, y186, z186⟩, st186⟩ := X185.specialBack hx (y := mN56) rfl hown157 (mvT hZ157 (tw hw 4 rfl)) (mvT hZ157 (tw hw 5 rfl)) (mvT hZ157 (tw hw 6 rfl)) (by decide) (StrChars.Road.backV (W := 1) hZ157 hws (kI := 4) (tw hw 1 rfl) (cs := ([(101 : Int32), (114 : Int32), (114 : Int32), (111 : Int32), (114 : Int32), (91 : Int32), c5, c6, (93 : Int32), (58 : Int32), (32 : Int32), c7, c8] : List Int32)) (bs := ([(101 : Int32), (114 : Int32), (114 : Int32), (111 : Int32), (114 : Int32), (91 : Int32), c5, c6, (93 : Int32), (58 : Int32), (32 : Int32), c7, c8] : List Int32).map (fun c => c.toInt8.toInt32)) (n := 13) (by omega : @LE.le Nat _ n0 b158) (by omega) C201 C202 C203 V185 (Sta.ext O220.2 S_CS) c_CS rfl rfl (by decide) (by decide) hL187 rfl (by decide) (by decide)) (g := (mkF m 216 #[vI p1, vI p2, vI p3, vI p4, vI p5, vI c5, vI c6, vI c7, vI c8, vI c9, vI c10, vI 0, vR b110, vR b132, vR x155, vR b157, .unset, .unset, .unset, .unset, .unset, .unset, .unset] [(.ref b159), (.ref b158), (.ref b158)])) rfl (by rw [hml]; rfl) (Steps.refl _) (a := b158) (argsL := [(.ref b159)]) (rest := [(.ref b158)]) (lenOf pd_0 rfl) rfl (wL _) (hb hby at_216) (fun _ _ => ⟨rfl, e185, (by decide : 12 + 1 ≤ _), (by decide : 42 + 13 ≤ _)⟩)
  dsimp only [Pt.U, Pt.locs, Pt.cells, Pt.slots] at X186 l186 y186 z186 st186 hQ186
  rw [l186] at X186
  subst y186 z186
  obtain ⟨rfl, N186q, K186, E186, C186, t186, kb186, ge186, gh186, tx186, Vf186, Av186⟩ := hQ186
  have lt186 : @LT.lt Nat _ t186 T186.heap.size := Av186.lt
  have Sf221 : Safe Z EL1 T157.vm h157 b158 := Safe.new (by omega)
  have Sf222 := Safe.keep K158 sf0 cR12_K157.1 Sf221
  have Sf223 := Safe.keep K159 sf0 cR13_K158.1 Sf222
  have Sf224 := Safe.keep K161 hs15_K161 cR14_K159.1 Sf223
  have Sf225 := Safe.keep K163 hs16_K163 cR15_K161.1 Sf224
  have Sf226 := Safe.keep K165 hs17_K165 cR16_K163.1 Sf225
  have Sf227 := Safe.keep K167 hs18_K167 cR17_K165.1 Sf226
  have Sf228 := Safe.keep K169 hs19_K169 cR18_K167.1 Sf227
  have Sf229 := Safe.keep K171 hs20_K171 cR19_K169.1 Sf228
  have Sf230 := Safe.keep K173 hs21_K173 cR20_K171.1 Sf229
  have Sf231 := Safe.keep K175 hs22_K175 cR21_K173.1 Sf230
  have Sf232 := Safe.keep K177 hs23_K177 cR22_K175.1 Sf231
  have Sf233 := Safe.keep K179 hs24_K179 cR23_K177.1 Sf232
  have Sf234 := Safe.keep K181 hs25_K181 cR24_K179.1 Sf233
  have Sf235 := Safe.keep K183 hs26_K183 cR25_K181.1 Sf234
  have Sf236 := Safe.keep K185 hs27_K185 cR26_K183.1 Sf235
  have hs28_K186 : ∀ zz ∈ ([b158] : List Addr), Safe Z EL1 T157.vm h185 zz := sfS Sf236 (sf0)
  have cR28_K186 := cR27_K185.trans (CHr.keep K186 hs28_K186 cR27_K185.1)
  have sz28_K186 := K186.1
  have gt186_ : @Ne Nat t186 b158 := tx186
  have N186 := Fr.app N185 N186q
  obtain ⟨T237, h237, X237, e237, E237, A237, D237, -, st237⟩ := newO X186 hx hZ157 hown157 (tw hw 0 rfl) (tw hw 1 rfl) (tw hw 2 rfl) rfl (g := (mkF m 300 #[vI p1, vI p2, vI p3, vI p4, vI p5, vI c5, vI c6, vI c7, vI c8, vI c9, vI c10, vI 0, vR b110, vR b132, vR x155, vR b157, vR b158, .unset, .unset, .unset, .unset, .unset, .unset] [])) rfl (hb hby at_300) (by decide) (by decide)
  obtain ⟨b237, g237⟩ : ∃ z, z = T186.heap.size := ⟨_, rfl⟩
  rw [← g237] at A237 D237 st237
  have lt237 : @LT.lt Nat _ b237 h237.size := A237.lt
  have K237 : Keep T186.heap h237 [] := (Keep.refl _ _).ext E237
  have cR29_K237 := cR28_K186.trans (CHr.keep K237 sf0 cR28_K186.1)
  have sz29_K237 := K237.1
  have F237_coder : Fld Z h237 b237 "java/lang/String" "coder" "B" (.int 0) := D237 (Or.inr (tw hw 27 rfl)) (ty := .byte) (by decide)
  have F237_value : Fld Z h237 b237 "java/lang/String" "value" "[B" .null := D237 (Or.inr (tw hw 29 rfl)) (ty := (.array .byte)) (by decide)
  obtain ⟨T238, h238, k238, X238, e238, E238, A238, st238⟩ := newP X237 hx hZ157 (tw hw 3 rfl) e237 (g := (mkF m 306 #[vI p1, vI p2, vI p3, vI p4, vI p5, vI c5, vI c6, vI c7, vI c8, vI c9, vI c10, vI 0, vR b110, vR b132, vR x155, vR b157, vR b158, .unset, .unset, .unset, .unset, .unset, .unset] [(.int 10), (.ref b237), (.ref b237)])) rfl (hb hby at_306) rfl (by decide) (cap := 10) (by decide) (by decide) (by decide) (by decide)
  obtain ⟨b238, g238⟩ : ∃ z, z = h237.size := ⟨_, rfl⟩
  rw [← g238] at A238 st238
  have V238 : Arv Z h238 b238 k238 .char (10 : Int32) [(.int 0), (.int 0), (.int 0), (.int 0), (.int 0), (.int 0), (.int 0), (.int 0), (.int 0), (.int 0)] (.int 0) := (Arv.new A238 (by decide)).pad (pad_rep [] (.int 0) 10)
  have lt238 : @LT.lt Nat _ b238 h238.size := V238.lt
  have K238 : Keep h237 h238 [] := (Keep.refl _ _).ext E238
  have cR30_K238 := cR29_K237.trans (CHr.keep K238 sf0 cR29_K237.1)
  have sz30_K238 := K238.1
  obtain ⟨cl239, Ar239, q239, S239, Nn239, H239, G239⟩ := id V238
  obtain ⟨T240, h240, X240, e240, W240, st240⟩ := stC X238 hx hZ157 e238 Ar239 (j := (0 : Int32)) (inb_of S239 ⟨by decide, by decide⟩) (g := (mkF m 312 #[vI p1, vI p2, vI p3, vI p4, vI p5, vI c5, vI c6, vI c7, vI c8, vI c9, vI c10, vI 0, vR b110, vR b132, vR x155, vR b157, vR b158, .unset, .unset, .unset, .unset, .unset, .unset] [(.int 101), (.int 0), (.ref b238), (.ref b238), (.ref b237), (.ref b237)])) rfl rfl (hb hby at_312)
  rw [own_nc (show ¬ (101 : Int32) < 0 ∧ ¬ (65535 : Int32) < (101 : Int32) by decide)] at W240
  have V240 : Arv Z h240 b238 k238 .char (10 : Int32) [(.int 101), (.int 0), (.int 0), (.int 0), (.int 0), (.int 0), (.int 0), (.int 0), (.int 0), (.int 0)] (.int 0) := Arv.set Ar239 q239 S239 Nn239 H239 G239 (own_fitc (show ¬ (101 : Int32) < 0 ∧ ¬ (65535 : Int32) < (101 : Int32) by decide)) W240 0 rfl (Nat.le_of_ble_eq_true rfl)
  have K240 := Keep.of_wr W240
  have N240 := Fr.snoc X240 N186 (by omega : @LE.le Nat _ n0 b238)
  have hs31_K240 : ∀ zz ∈ ([b238] : List Addr), Safe Z EL1 T157.vm h238 zz := sfS (Safe.arv hZ157.alike V238 (by decide)) (sf0)
  have cR31_K240 := cR30_K238.trans (CHr.keep K240 hs31_K240 cR30_K238.1)
  have sz31_K240 := K240.1
  obtain ⟨cl241, Ar241, q241, S241, Nn241, H241, G241⟩ := id V240
  obtain ⟨T242, h242, X242, e242, W242, st242⟩ := stC X240 hx hZ157 e240 Ar241 (j := (1 : Int32)) (inb_of S241 ⟨by decide, by decide⟩) (g := (mkF m 317 #[vI p1, vI p2, vI p3, vI p4, vI p5, vI c5, vI c6, vI c7, vI c8, vI c9, vI c10, vI 0, vR b110, vR b132, vR x155, vR b157, vR b158, .unset, .unset, .unset, .unset, .unset, .unset] [(.int 114), (.int 1), (.ref b238), (.ref b238), (.ref b237), (.ref b237)])) rfl rfl (hb hby at_317)
  rw [own_nc (show ¬ (114 : Int32) < 0 ∧ ¬ (65535 : Int32) < (114 : Int32) by decide)] at W242
  have V242 : Arv Z h242 b238 k238 .char (10 : Int32) [(.int 101), (.int 114), (.int 0), (.int 0), (.int 0), (.int 0), (.int 0), (.int 0), (.int 0), (.int 0)] (.int 0) := Arv.set Ar241 q241 S241 Nn241 H241 G241 (own_fitc (show ¬ (114 : Int32) < 0 ∧ ¬ (65535 : Int32) < (114 : Int32) by decide)) W242 1 rfl (Nat.le_of_ble_eq_true rfl)
  have K242 := Keep.of_wr W242
  have N242 := Fr.snoc X242 N240 (by omega : @LE.le Nat _ n0 b238)
  have hs32_K242 : ∀ zz ∈ ([b238] : List Addr), Safe Z EL1 T157.vm h240 zz := sfS (Safe.arv hZ157.alike V240 (by decide)) (sf0)
  have cR32_K242 := cR31_K240.trans (CHr.keep K242 hs32_K242 cR31_K240.1)
  have sz32_K242 := K242.1
  obtain ⟨cl243, Ar243, q243, S243, Nn243, H243, G243⟩ := id V242
  obtain ⟨T244, h244, X244, e244, W244, st244⟩ := stC X242 hx hZ157 e242 Ar243 (j := (2 : Int32)) (inb_of S243 ⟨by decide, by decide⟩) (g := (mkF m 322 #[vI p1, vI p2, vI p3, vI p4, vI p5, vI c5, vI c6, vI c7, vI c8, vI c9, vI c10, vI 0, vR b110, vR b132, vR x155, vR b157, vR b158, .unset, .unset, .unset, .unset, .unset, .unset] [(.int 114), (.int 2), (.ref b238), (.ref b238), (.ref b237), (.ref b237)])) rfl rfl (hb hby at_322)
  rw [own_nc (show ¬ (114 : Int32) < 0 ∧ ¬ (65535 : Int32) < (114 : Int32) by decide)] at W244
  have V244 : Arv Z h244 b238 k238 .char (10 : Int32) [(.int 101), (.int 114), (.int 114), (.int 0), (.int 0), (.int 0), (.int 0), (.int 0), (.int 0), (.int 0)] (.int 0) := Arv.set Ar243 q243 S243 Nn243 H243 G243 (own_fitc (show ¬ (114 : Int32) < 0 ∧ ¬ (65535 : Int32) < (114 : Int32) by decide)) W244 2 rfl (Nat.le_of_ble_eq_true rfl)
  have K244 := Keep.of_wr W244
  have N244 := Fr.snoc X244 N242 (by omega : @LE.le Nat _ n0 b238)
  have hs33_K244 : ∀ zz ∈ ([b238] : List Addr), Safe Z EL1 T157.vm h242 zz := sfS (Safe.arv hZ157.alike V242 (by decide)) (sf0)
  have cR33_K244 := cR32_K242.trans (CHr.keep K244 hs33_K244 cR32_K242.1)
  have sz33_K244 := K244.1
  obtain ⟨cl245, Ar245, q245, S245, Nn245, H245, G245⟩ := id V244
  obtain ⟨T246, h246, X246, e246, W246, st246⟩ := stC X244 hx hZ157 e244 Ar245 (j := (3 : Int32)) (inb_of S245 ⟨by decide, by decide⟩) (g := (mkF m 327 #[vI p1, vI p2, vI p3, vI p4, vI p5, vI c5, vI c6, vI c7, vI c8, vI c9, vI c10, vI 0, vR b110, vR b132, vR x155, vR b157, vR b158, .unset, .unset, .unset, .unset, .unset, .unset] [(.int 111), (.int 3), (.ref b238), (.ref b238), (.ref b237), (.ref b237)])) rfl rfl (hb hby at_327)
  rw [own_nc (show ¬ (111 : Int32) < 0 ∧ ¬ (65535 : Int32) < (111 : Int32) by decide)] at W246
  have V246 : Arv Z h246 b238 k238 .char (10 : Int32) [(.int 101), (.int 114), (.int 114), (.int 111), (.int 0), (.int 0), (.int 0), (.int 0), (.int 0), (.int 0)] (.int 0) := Arv.set Ar245 q245 S245 Nn245 H245 G245 (own_fitc (show ¬ (111 : Int32) < 0 ∧ ¬ (65535 : Int32) < (111 : Int32) by decide)) W246 3 rfl (Nat.le_of_ble_eq_true rfl)
  have K246 := Keep.of_wr W246
  have N246 := Fr.snoc X246 N244 (by omega : @LE.le Nat _ n0 b238)
  have hs34_K246 : ∀ zz ∈ ([b238] : List Addr), Safe Z EL1 T157.vm h244 zz := sfS (Safe.arv hZ157.alike V244 (by decide)) (sf0)
  have cR34_K246 := cR33_K244.trans (CHr.keep K246 hs34_K246 cR33_K244.1)
  have sz34_K246 := K246.1
  obtain ⟨cl247, Ar247, q247, S247, Nn247, H247, G247⟩ := id V246
  obtain ⟨T248, h248, X248, e248, W248, st248⟩ := stC X246 hx hZ157 e246 Ar247 (j := (4 : Int32)) (inb_of S247 ⟨by decide, by decide⟩) (g := (mkF m 332 #[vI p1, vI p2, vI p3, vI p4, vI p5, vI c5, vI c6, vI c7, vI c8, vI c9, vI c10, vI 0, vR b110, vR b132, vR x155, vR b157, vR b158, .unset, .unset, .unset, .unset, .unset, .unset] [(.int 114), (.int 4), (.ref b238), (.ref b238), (.ref b237), (.ref b237)])) rfl rfl (hb hby at_332)
  rw [own_nc (show ¬ (114 : Int32) < 0 ∧ ¬ (65535 : Int32) < (114 : Int32) by decide)] at W248
  have V248 : Arv Z h248 b238 k238 .char (10 : Int32) [(.int 101), (.int 114), (.int 114), (.int 111), (.int 114), (.int 0), (.int 0), (.int 0), (.int 0), (.int 0)] (.int 0) := Arv.set Ar247 q247 S247 Nn247 H247 G247 (own_fitc (show ¬ (114 : Int32) < 0 ∧ ¬ (65535 : Int32) < (114 : Int32) by decide)) W248 4 rfl (Nat.le_of_ble_eq_true rfl)
  have K248 := Keep.of_wr W248
  have N248 := Fr.snoc X248 N246 (by omega : @LE.le Nat _ n0 b238)
  have hs35_K248 : ∀ zz ∈ ([b238] : List Addr), Safe Z EL1 T157.vm h246 zz := sfS (Safe.arv hZ157.alike V246 (by decide)) (sf0)
  have cR35_K248 := cR34_K246.trans (CHr.keep K248 hs35_K248 cR34_K246.1)
  have sz35_K248 := K248.1
  obtain ⟨cl249, Ar249, q249, S249, Nn249, H249, G249⟩ := id V248
  obtain ⟨T250, h250, X250, e250, W250, st250⟩ := stC X248 hx hZ157 e248 Ar249 (j := (5 : Int32)) (inb_of S249 ⟨by decide, by decide⟩) (g := (mkF m 337 #[vI p1, vI p2, vI p3, vI p4, vI p5, vI c5, vI c6, vI c7, vI c8, vI c9, vI c10, vI 0, vR b110, vR b132, vR x155, vR b157, vR b158, .unset, .unset, .unset, .unset, .unset, .unset] [(.int 91), (.int 5), (.ref b238), (.ref b238), (.ref b237), (.ref b237)])) rfl rfl (hb hby at_337)
  rw [own_nc (show ¬ (91 : Int32) < 0 ∧ ¬ (65535 : Int32) < (91 : Int32) by decide)] at W250
  have V250 : Arv Z h250 b238 k238 .char (10 : Int32) [(.int 101), (.int 114), (.int 114), (.int 111), (.int 114), (.int 91), (.int 0), (.int 0), (.int 0), (.int 0)] (.int 0) := Arv.set Ar249 q249 S249 Nn249 H249 G249 (own_fitc (show ¬ (91 : Int32) < 0 ∧ ¬ (65535 : Int32) < (91 : Int32) by decide)) W250 5 rfl (Nat.le_of_ble_eq_true rfl)
  have K250 := Keep.of_wr W250
  have N250 := Fr.snoc X250 N248 (by omega : @LE.le Nat _ n0 b238)
  have hs36_K250 : ∀ zz ∈ ([b238] : List Addr), Safe Z EL1 T157.vm h248 zz := sfS (Safe.arv hZ157.alike V248 (by decide)) (sf0)
  have cR36_K250 := cR35_K248.trans (CHr.keep K250 hs36_K250 cR35_K248.1)
  have sz36_K250 := K250.1
  obtain ⟨cl251, Ar251, q251, S251, Nn251, H251, G251⟩ := id V250
  obtain ⟨T252, h252, X252, e252, W252, st252⟩ := stC X250 hx hZ157 e250 Ar251 (j := (6 : Int32)) (inb_of S251 ⟨by decide, by decide⟩) (g := (mkF m 343 #[vI p1, vI p2, vI p3, vI p4, vI p5, vI c5, vI c6, vI c7, vI c8, vI c9, vI c10, vI 0, vR b110, vR b132, vR x155, vR b157, vR b158, .unset, .unset, .unset, .unset, .unset, .unset] [(.int c9), (.int 6), (.ref b238), (.ref b238), (.ref b237), (.ref b237)])) rfl rfl (hb hby at_343)
  rw [own_nc (own_c255 rc9)] at W252
  have V252 : Arv Z h252 b238 k238 .char (10 : Int32) [(.int 101), (.int 114), (.int 114), (.int 111), (.int 114), (.int 91), (.int c9), (.int 0), (.int 0), (.int 0)] (.int 0) := Arv.set Ar251 q251 S251 Nn251 H251 G251 (own_fitc (own_c255 rc9)) W252 6 rfl (Nat.le_of_ble_eq_true rfl)
  have K252 := Keep.of_wr W252
  have N252 := Fr.snoc X252 N250 (by omega : @LE.le Nat _ n0 b238)
  have hs37_K252 : ∀ zz ∈ ([b238] : List Addr), Safe Z EL1 T157.vm h250 zz := sfS (Safe.arv hZ157.alike V250 (by decide)) (sf0)
  have cR37_K252 := cR36_K250.trans (CHr.keep K252 hs37_K252 cR36_K250.1)
  have sz37_K252 := K252.1
  obtain ⟨cl253, Ar253, q253, S253, Nn253, H253, G253⟩ := id V252
  obtain ⟨T254, h254, X254, e254, W254, st254⟩ := stC X252 hx hZ157 e252 Ar253 (j := (7 : Int32)) (inb_of S253 ⟨by decide, by decide⟩) (g := (mkF m 349 #[vI p1, vI p2, vI p3, vI p4, vI p5, vI c5, vI c6, vI c7, vI c8, vI c9, vI c10, vI 0, vR b110, vR b132, vR x155, vR b157, vR b158, .unset, .unset, .unset, .unset, .unset, .unset] [(.int 93), (.int 7), (.ref b238), (.ref b238), (.ref b237), (.ref b237)])) rfl rfl (hb hby at_349)
  rw [own_nc (show ¬ (93 : Int32) < 0 ∧ ¬ (65535 : Int32) < (93 : Int32) by decide)] at W254
  have V254 : Arv Z h254 b238 k238 .char (10 : Int32) [(.int 101), (.int 114), (.int 114), (.int 111), (.int 114), (.int 91), (.int c9), (.int 93), (.int 0), (.int 0)] (.int 0) := Arv.set Ar253 q253 S253 Nn253 H253 G253 (own_fitc (show ¬ (93 : Int32) < 0 ∧ ¬ (65535 : Int32) < (93 : Int32) by decide)) W254 7 rfl (Nat.le_of_ble_eq_true rfl)
  have K254 := Keep.of_wr W254
  have N254 := Fr.snoc X254 N252 (by omega : @LE.le Nat _ n0 b238)
  have hs38_K254 : ∀ zz ∈ ([b238] : List Addr), Safe Z EL1 T157.vm h252 zz := sfS (Safe.arv hZ157.alike V252 (by decide)) (sf0)
  have cR38_K254 := cR37_K252.trans (CHr.keep K254 hs38_K254 cR37_K252.1)
  have sz38_K254 := K254.1
  obtain ⟨cl255, Ar255, q255, S255, Nn255, H255, G255⟩ := id V254
  obtain ⟨T256, h256, X256, e256, W256, st256⟩ := stC X254 hx hZ157 e254 Ar255 (j := (8 : Int32)) (inb_of S255 ⟨by decide, by decide⟩) (g := (mkF m 355 #[vI p1, vI p2, vI p3, vI p4, vI p5, vI c5, vI c6, vI c7, vI c8, vI c9, vI c10, vI 0, vR b110, vR b132, vR x155, vR b157, vR b158, .unset, .unset, .unset, .unset, .unset, .unset] [(.int 58), (.int 8), (.ref b238), (.ref b238), (.ref b237), (.ref b237)])) rfl rfl (hb hby at_355)
  rw [own_nc (show ¬ (58 : Int32) < 0 ∧ ¬ (65535 : Int32) < (58 : Int32) by decide)] at W256
  have V256 : Arv Z h256 b238 k238 .char (10 : Int32) [(.int 101), (.int 114), (.int 114), (.int 111), (.int 114), (.int 91), (.int c9), (.int 93), (.int 58), (.int 0)] (.int 0) := Arv.set Ar255 q255 S255 Nn255 H255 G255 (own_fitc (show ¬ (58 : Int32) < 0 ∧ ¬ (65535 : Int32) < (58 : Int32) by decide)) W256 8 rfl (Nat.le_of_ble_eq_true rfl)
  have K256 := Keep.of_wr W256
  have N256 := Fr.snoc X256 N254 (by omega : @LE.le Nat _ n0 b238)
  have hs39_K256 : ∀ zz ∈ ([b238] : List Addr), Safe Z EL1 T157.vm h254 zz := sfS (Safe.arv hZ157.alike V254 (by decide)) (sf0)
  have cR39_K256 := cR38_K254.trans (CHr.keep K256 hs39_K256 cR38_K254.1)
  have sz39_K256 := K256.1
  obtain ⟨cl257, Ar257, q257, S257, Nn257, H257, G257⟩ := id V256
  obtain ⟨T258, h258, X258, e258, W258, st258⟩ := stC X256 hx hZ157 e256 Ar257 (j := (9 : Int32)) (inb_of S257 ⟨by decide, by decide⟩) (g := (mkF m 361 #[vI p1, vI p2, vI p3, vI p4, vI p5, vI c5, vI c6, vI c7, vI c8, vI c9, vI c10, vI 0, vR b110, vR b132, vR x155, vR b157, vR b158, .unset, .unset, .unset, .unset, .unset, .unset] [(.int 32), (.int 9), (.ref b238), (.ref b238), (.ref b237), (.ref b237)])) rfl rfl (hb hby at_361)
  rw [own_nc (show ¬ (32 : Int32) < 0 ∧ ¬ (65535 : Int32) < (32 : Int32) by decide)] at W258
  have V258 : Arv Z h258 b238 k238 .char (10 : Int32) [(.int 101), (.int 114), (.int 114), (.int 111), (.int 114), (.int 91), (.int c9), (.int 93), (.int 58), (.int 32)] (.int 0) := Arv.set Ar257 q257 S257 Nn257 H257 G257 (own_fitc (show ¬ (32 : Int32) < 0 ∧ ¬ (65535 : Int32) < (32 : Int32) by decide)) W258 9 rfl (Nat.le_of_ble_eq_true rfl)
  have K258 := Keep.of_wr W258
  have N258 := Fr.snoc X258 N256 (by omega : @LE.le Nat _ n0 b238)
  have hs40_K258 : ∀ zz ∈ ([b238] : List Addr), Safe Z EL1 T157.vm h256 zz := sfS (Safe.arv hZ157.alike V256 (by decide)) (sf0)
  have cR40_K258 := cR39_K256.trans (CHr.keep K258 hs40_K258 cR39_K256.1)
  have sz40_K258 := K258.1
  have hL260 : ∀ c ∈ ([(101 : Int32), (114 : Int32), (114 : Int32), (111 : Int32), (114 : Int32), (91 : Int32), c9, (93 : Int32), (58 : Int32), (32 : Int32)] : List Int32), ¬ c < 0 ∧ ¬ (255 : Int32) < c := by intro c hc; simp only [List.mem_cons, List.not_mem_nil, or_false] at hc; rcases hc with rfl | rfl | rfl | rfl | rfl | rfl | rfl | rfl | rfl | rfl <;> first | decide | exact rc9
  have KD261 : Keep h237 h240 [] := ((Keep.refl _ _).trans K238 (all0)).trans K240 (allS (Or.inr (by omega)) (all0))
  have KD262 : Keep h237 h242 [] := ((Keep.refl _ _).trans KD261 (all0)).trans K242 (allS (Or.inr (by omega)) (all0))
  have KD263 : Keep h237 h244 [] := ((Keep.refl _ _).trans KD262 (all0)).trans K244 (allS (Or.inr (by omega)) (all0))
  have KD264 : Keep h237 h246 [] := ((Keep.refl _ _).trans KD263 (all0)).trans K246 (allS (Or.inr (by omega)) (all0))
  have KD265 : Keep h237 h248 [] := ((Keep.refl _ _).trans KD264 (all0)).trans K248 (allS (Or.inr (by omega)) (all0))
  have KD266 : Keep h237 h250 [] := ((Keep.refl _ _).trans KD265 (all0)).trans K250 (allS (Or.inr (by omega)) (all0))
  have KD267 : Keep h237 h252 [] := ((Keep.refl _ _).trans KD266 (all0)).trans K252 (allS (Or.inr (by omega)) (all0))
  have KD268 : Keep h237 h254 [] := ((Keep.refl _ _).trans KD267 (all0)).trans K254 (allS (Or.inr (by omega)) (all0))
  have KD269 : Keep h237 h256 [] := ((Keep.refl _ _).trans KD268 (all0)).trans K256 (allS (Or.inr (by omega)) (all0))
  have KD270 : Keep h237 h258 [] := ((Keep.refl _ _).trans KD269 (all0)).trans K258 (allS (Or.inr (by omega)) (all0))
  have C271 := A237.keep KD270
  have C272 := F237_value.keep KD270 nin0
  have C273 := F237_coder.keep KD270 nin0
  have O274 : Old Z n0 T186.heap := O220.keep K186 (allS (by omega) (all0))
  have O275 : Old Z n0 h237 := O274.keep K237 all0
  have O276 : Old Z n0 h238 := O275.keep K238 all0
  have O277 : Old Z n0 h240 := O276.keep K240 (allS (by omega) (all0))
  have O278 : Old Z n0 h242 := O277.keep K242 (allS (by omega) (all0))
  have O279 : Old Z n0 h244 := O278.keep K244 (allS (by omega) (all0))
  have O280 : Old Z n0 h246 := O279.keep K246 (allS (by omega) (all0))
  have O281 : Old Z n0 h248 := O280.keep K248 (allS (by omega) (all0))
  have O282 : Old Z n0 h250 := O281.keep K250 (allS (by omega) (all0))
  have O283 : Old Z n0 h252 := O282.keep K252 (allS (by omega) (all0))
  have O284 : Old Z n0 h254 := O283.keep K254 (allS (by omega) (all0))
  have O285 : Old Z n0 h256 := O284.keep K256 (allS (by omega) (all0))
  have O286 : Old Z n0 h258 := O285.keep K258 (allS (by omega) (all0))
  obtain ⟨_, _, ⟨T259, L259, k259, n259⟩, -, X259, ⟨Lc259, hQ259, l259, y259, z259⟩, st259⟩ := X258.specialBack hx (y := mN56) rfl hown157 (mvT hZ157 (tw hw 4 rfl)) (mvT hZ157 (tw hw 5 rfl)) (mvT hZ157 (tw hw 6 rfl)) (by decide) (StrChars.Road.backV (W := 1) hZ157 hws (kI := 4) (tw hw 1 rfl) (cs := ([(101 : Int32), (114 : Int32), (114 : Int32), (111 : Int32), (114 : Int32), (91 : Int32), c9, (93 : Int32), (58 : Int32), (32 : Int32)] : List Int32)) (bs := ([(101 : Int32), (114 : Int32), (114 : Int32), (111 : Int32), (114 : Int32), (91 : Int32), c9, (93 : Int32), (58 : Int32), (32 : Int32)] : List Int32).map (fun c => c.toInt8.toInt32)) (n := 10) (by omega : @LE.le Nat _ n0 b237) (by omega) C271 C272 C273 V258 (Sta.ext O286.2 S_CS) c_CS rfl rfl (by decide) (by decide) hL260 rfl (by decide) (by decide)) (g := (mkF m 362 #[vI p1, vI p2, vI p3, vI p4, vI p5, vI c5, vI c6, vI c7, vI c8, vI c9, vI c10, vI 0, vR b110, vR b132, vR x155, vR b157, vR b158, .unset, .unset, .unset, .unset, .unset, .unset] [(.ref b238), (.ref b237), (.ref b237)])) rfl (by rw [hml]; rfl) (Steps.refl _) (a := b237) (argsL := [(.ref b238)]) (rest := [(.ref b237)]) (lenOf pd_0 rfl) rfl (wL _) (hb hby at_362) (fun _ _ => ⟨rfl, e258, (by decide : 15 + 1 ≤ _), (by decide : 69 + 10 ≤ _)⟩)
  dsimp only [Pt.U, Pt.locs, Pt.cells, Pt.slots] at X259 l259 y259 z259 st259 hQ259
  rw [l259] at X259
  subst y259 z259
  obtain ⟨rfl, N259q, K259, E259, C259, t259, kb259, ge259, gh259, tx259, Vf259, Av259⟩ := hQ259
  have lt259 : @LT.lt Nat _ t259 T259.heap.size := Av259.lt
  have Sf287 : Safe Z EL1 T157.vm T186.heap b237 := Safe.new (by omega)
  have Sf288 := Safe.keep K237 sf0 cR28_K186.1 Sf287
  have Sf289 := Safe.keep K238 sf0 cR29_K237.1 Sf288
  have Sf290 := Safe.keep K240 hs31_K240 cR30_K238.1 Sf289
  have Sf291 := Safe.keep K242 hs32_K242 cR31_K240.1 Sf290
  have Sf292 := Safe.keep K244 hs33_K244 cR32_K242.1 Sf291
  have Sf293 := Safe.keep K246 hs34_K246 cR33_K244.1 Sf292
  have Sf294 := Safe.keep K248 hs35_K248 cR34_K246.1 Sf293
  have Sf295 := Safe.keep K250 hs36_K250 cR35_K248.1 Sf294
  have Sf296 := Safe.keep K252 hs37_K252 cR36_K250.1 Sf295
  have Sf297 := Safe.keep K254 hs38_K254 cR37_K252.1 Sf296
  have Sf298 := Safe.keep K256 hs39_K256 cR38_K254.1 Sf297
  have Sf299 := Safe.keep K258 hs40_K258 cR39_K256.1 Sf298
  have hs41_K259 : ∀ zz ∈ ([b237] : List Addr), Safe Z EL1 T157.vm h258 zz := sfS Sf299 (sf0)
  have cR41_K259 := cR40_K258.trans (CHr.keep K259 hs41_K259 cR40_K258.1)
  have sz41_K259 := K259.1
  have gt259_ : @Ne Nat t259 b237 := tx259
  have N259 := Fr.app N258 N259q
  obtain ⟨T300, h300, X300, e300, E300, A300, D300, -, st300⟩ := newO X259 hx hZ157 hown157 (tw hw 47 rfl) (tw hw 48 rfl) (tw hw 49 rfl) rfl (g := (mkF m 367 #[vI p1, vI p2, vI p3, vI p4, vI p5, vI c5, vI c6, vI c7, vI c8, vI c9, vI c10, vI 0, vR b110, vR b132, vR x155, vR b157, vR b158, vR b237, .unset, .unset, .unset, .unset, .unset] [])) rfl (hb hby at_367) (by decide) (by decide)
  obtain ⟨b300, g300⟩ : ∃ z, z = T259.heap.size := ⟨_, rfl⟩
  rw [← g300] at A300 D300 st300
  have lt300 : @LT.lt Nat _ b300 h300.size := A300.lt
  have K300 : Keep T259.heap h300 [] := (Keep.refl _ _).ext E300
  have cR42_K300 := cR41_K259.trans (CHr.keep K300 sf0 cR41_K259.1)
  have sz42_K300 := K300.1
  have F300_lines : Fld Z h300 b300 "com/example/nroute/nroute/route/Mistakes" "lines" "Ljava/util/List;" .null := D300 (Or.inr (tw hw 79 rfl)) (ty := (.object "java/util/List")) (by decide)
  have O302 : Old Z n0 T259.heap := O286.keep K259 (allS (by omega) (all0))
  have O303 : Old Z n0 h300 := O302.keep K300 all0
  obtain ⟨_, _, ⟨T301, L301, k301, n301⟩, -, X301, ⟨Lc301, hQ301, l301, y301, z301⟩, st301⟩ := X300.specialBack hx (y := mN27) rfl hown157 (mvT hZ157 (tw hw 50 rfl)) (mvT hZ157 (tw hw 51 rfl)) (mvT hZ157 (tw hw 52 rfl)) (by decide) (backOf (W := 1) (rmMi l Z a0 hw [] b300 dd kD h300 n0 O303 S_DC V_DC (by omega : @LE.le Nat _ n0 b300) A300 F300_lines) hZ157 (tw hw 52 rfl) (tw hw 49 rfl) (by decide) (by decide)) (g := (mkF m 371 #[vI p1, vI p2, vI p3, vI p4, vI p5, vI c5, vI c6, vI c7, vI c8, vI c9, vI c10, vI 0, vR b110, vR b132, vR x155, vR b157, vR b158, vR b237, .unset, .unset, .unset, .unset, .unset] [(.ref b300), (.ref b300)])) rfl (by rw [hml]; rfl) (Steps.refl _) (a := b300) (argsL := []) (rest := [(.ref b300)]) (lenOf pd_2 rfl) rfl (wL _) (hb hby at_371) (fun _ _ => ⟨rfl, e300, (by decide : 17 + 1 ≤ _), (by decide : 80 + 3 ≤ _)⟩)
  dsimp only [Pt.U, Pt.locs, Pt.cells, Pt.slots] at X301 l301 y301 z301 st301 hQ301
  rw [l301] at X301
  subst y301 z301
  obtain ⟨x301, rfl, N301q, K301, gx301, Em301, Ml301, El301, Ld301, Ln301, Lm301⟩ := hQ301
  have ltx301 : @LT.lt Nat _ x301 T301.heap.size := El301.lt
  have hs43_K301 : ∀ zz ∈ ([b300] : List Addr), Safe Z EL1 T157.vm h300 zz := sfS (Safe.exa hZ157.alike A300 (by decide) (by decide)) (sf0)
  have cR43_K301 := cR42_K300.trans (CHr.keep K301 hs43_K301 cR42_K300.1)
  have sz43_K301 := K301.1
  have N301 := Fr.app N259 N301q
  have O305 : Old Z n0 T301.heap := O303.keep K301 (allS (by omega) (all0))
  obtain ⟨cq304, kq304, q304a, q304b, q304c⟩ := isOf hZ157 rfl Em301
  obtain ⟨_, _, ⟨T304, L304, k304, n304⟩, -, X304, ⟨Lc304, hQ304, l304, y304, z304⟩, st304⟩ := X301.virtualBack hx (y := mN29) (z := mN29) hown157 (mvT hZ157 (tw hw 80 rfl)) (mvT hZ157 (tw hw 81 rfl)) (notFace_of_selects (args := #[]) (mvT hZ157 (tw hw 83 rfl))) (mvT hZ157 (tw hw 83 rfl)) (mvT hZ157 (tw hw 82 rfl)) (by decide) (backOf (W := 0) (rmMie0 l Z a0 hw [] b300 x301 T301.heap n0 O305 Em301 Ml301 El301 Ln301) hZ157 (tw hw 84 rfl) (tw hw 49 rfl) (by decide) (by decide)) q304a q304c (g := (mkF m 378 #[vI p1, vI p2, vI p3, vI p4, vI p5, vI c5, vI c6, vI c7, vI c8, vI c9, vI c10, vI 0, vR b110, vR b132, vR x155, vR b157, vR b158, vR b237, vR b300, .unset, .unset, .unset, .unset] [(.ref b300)])) rfl (by rw [hml]; rfl) (Steps.refl _) (argsL := []) (rest := []) (lenOf pd_10 rfl) rfl (wL _) (hb hby at_378) (fun _ _ => ⟨rfl, rfl, (by decide : 18 + 0 ≤ _), (by decide : 83 + 0 ≤ _)⟩)
  dsimp only [Pt.U, Pt.locs, Pt.cells, Pt.slots] at X304 l304 y304 z304 st304 hQ304
  rw [l304] at X304
  subst y304 z304
  obtain ⟨rfl, N304q, H304⟩ := hQ304
  have N304 := Fr.app N301 N304q
  obtain ⟨cq306, kq306, q306a, q306b, q306c⟩ := isOf hZ157 H304 Em301
  obtain ⟨_, _, ⟨T306, L306, k306, n306⟩, -, X306, ⟨Lc306, hQ306, l306, y306, z306⟩, st306⟩ := X304.virtualBack hx (y := mN35) (z := mN35) hown157 (mvT hZ157 (tw hw 96 rfl)) (mvT hZ157 (tw hw 97 rfl)) (notFace_of_selects (args := #[]) (mvT hZ157 (tw hw 99 rfl))) (mvT hZ157 (tw hw 99 rfl)) (mvT hZ157 (tw hw 98 rfl)) (by decide) (backOf (W := 0) (rmLi0 l Z a0 hw [] b300 el x301 T301.heap n0 O305 S_EL Em301 Ml301 El301 Ln301) hZ157 (tw hw 100 rfl) (tw hw 49 rfl) (by decide) (by decide)) q306a q306c (g := (mkF m 385 #[vI p1, vI p2, vI p3, vI p4, vI p5, vI c5, vI c6, vI c7, vI c8, vI c9, vI c10, vI 0, vR b110, vR b132, vR x155, vR b157, vR b158, vR b237, vR b300, vI 1, .unset, .unset, .unset] [(.ref b300)])) rfl (by rw [hml]; rfl) (Steps.refl _) (argsL := []) (rest := []) (lenOf pd_11 rfl) rfl (wL _) (hb hby at_385) (fun _ _ => ⟨rfl, H304, (by decide : 18 + 0 ≤ _), (by decide : 83 + 0 ≤ _)⟩)
  dsimp only [Pt.U, Pt.locs, Pt.cells, Pt.slots] at X306 l306 y306 z306 st306 hQ306
  rw [l306] at X306
  subst y306 z306
  obtain ⟨rfl, N306q, H306⟩ := hQ306
  have N306 := Fr.app N304 N306q
  have KD308 : Keep h0 h115 [] := ((Keep.refl _ _).trans K110 (all0)).trans KD119 (all0)
  have KD309 : Keep h0 T116.heap [] := ((Keep.refl _ _).trans KD308 (all0)).trans K116 (allS (Or.inr (by omega)) (all0))
  have KD310 : Keep h0 h132 [] := ((Keep.refl _ _).trans KD309 (all0)).trans K132 (all0)
  have KD311 : Keep h0 h137 [] := ((Keep.refl _ _).trans KD310 (all0)).trans KD141 (all0)
  have KD312 : Keep h0 T138.heap [] := ((Keep.refl _ _).trans KD311 (all0)).trans K138 (allS (Or.inr (by omega)) (all0))
  have KD313 : Keep h0 T155.heap [] := ((Keep.refl _ _).trans KD312 (all0)).trans K155 (all0)
  have KD314 : Keep h0 h157 [] := ((Keep.refl _ _).trans KD313 (all0)).trans K157 (all0)
  have KD315 : Keep h0 h158 [] := ((Keep.refl _ _).trans KD314 (all0)).trans K158 (all0)
  have KD316 : Keep h0 h185 [] := ((Keep.refl _ _).trans KD315 (all0)).trans KD200 (all0)
  have KD317 : Keep h0 T186.heap [] := ((Keep.refl _ _).trans KD316 (all0)).trans K186 (allS (Or.inr (by omega)) (all0))
  have KD318 : Keep h0 h237 [] := ((Keep.refl _ _).trans KD317 (all0)).trans K237 (all0)
  have KD319 : Keep h0 h258 [] := ((Keep.refl _ _).trans KD318 (all0)).trans KD270 (all0)
  have KD320 : Keep h0 T259.heap [] := ((Keep.refl _ _).trans KD319 (all0)).trans K259 (allS (Or.inr (by omega)) (all0))
  have KD321 : Keep T259.heap T301.heap [] := ((Keep.refl _ _).trans K300 (all0)).trans K301 (allS (Or.inr (by omega)) (all0))
  have KD322 : Keep h0 T301.heap [] := ((Keep.refl _ _).trans KD320 (all0)).trans KD321 (all0)
  have C323 := E_el.keep KD322
  have C324 := F_el.keep KD322 nin0
  have C325 := V_el.keep KD322 nin0
  obtain ⟨cq307, kq307, q307a, q307b, q307c⟩ := isOf hZ157 H306 C323
  obtain ⟨_, _, ⟨T307, L307, k307, n307⟩, -, X307, ⟨Lc307, hQ307, l307, y307, z307⟩, st307⟩ := X306.interfaceBack hx (xi := mN57) (y := mN36) hown157 (mvT hZ157 (tw hw 124 rfl)) (mvT hZ157 (tw hw 125 rfl)) (mvT hZ157 (tw hw 126 rfl)) (mvT hZ157 (tw hw 127 rfl)) (mvT hZ157 (tw hw 128 rfl)) (mvT hZ157 (tw hw 129 rfl)) (mvT hZ157 (tw hw 130 rfl)) (mvT hZ157 (tw hw 131 rfl)) (by decide) (backOf (W := 0) (rmNsz l Z a0 hw [] el ea kE T301.heap n0 O305 C323 C324 C325) hZ157 (tw hw 133 rfl) (tw hw 132 rfl) (by decide) (by decide)) q307a q307b q307c (g := (mkF m 397 #[vI p1, vI p2, vI p3, vI p4, vI p5, vI c5, vI c6, vI c7, vI c8, vI c9, vI c10, vI 0, vR b110, vR b132, vR x155, vR b157, vR b158, vR b237, vR b300, vI 1, vR el, .unset, .unset] [(.ref el)])) rfl (by rw [hml]; rfl) (Steps.refl _) (argsL := []) (rest := []) (lenOf pd_13 rfl) rfl (wL _) (hb hby at_397) (fun _ _ => ⟨rfl, H306, (by decide : 18 + 0 ≤ _), (by decide : 83 + 0 ≤ _)⟩)
  dsimp only [Pt.U, Pt.locs, Pt.cells, Pt.slots] at X307 l307 y307 z307 st307 hQ307
  rw [l307] at X307
  subst y307 z307
  obtain ⟨rfl, N307q, H307⟩ := hQ307
  have N307 := Fr.app N306 N307q
  have KD327 : Keep T116.heap h137 [] := ((Keep.refl _ _).trans K132 (all0)).trans KD141 (all0)
  have KD328 : Keep T116.heap T138.heap [] := ((Keep.refl _ _).trans KD327 (all0)).trans K138 (allS (Or.inr (by omega)) (all0))
  have KD329 : Keep T116.heap T155.heap [] := ((Keep.refl _ _).trans KD328 (all0)).trans K155 (all0)
  have KD330 : Keep T116.heap h157 [] := ((Keep.refl _ _).trans KD329 (all0)).trans K157 (all0)
  have KD331 : Keep T116.heap h158 [] := ((Keep.refl _ _).trans KD330 (all0)).trans K158 (all0)
  have KD332 : Keep T116.heap h185 [] := ((Keep.refl _ _).trans KD331 (all0)).trans KD200 (all0)
  have KD333 : Keep T116.heap T186.heap [] := ((Keep.refl _ _).trans KD332 (all0)).trans K186 (allS (Or.inr (by omega)) (all0))
  have KD334 : Keep T116.heap h237 [] := ((Keep.refl _ _).trans KD333 (all0)).trans K237 (all0)
  have KD335 : Keep T116.heap h258 [] := ((Keep.refl _ _).trans KD334 (all0)).trans KD270 (all0)
  have KD336 : Keep T116.heap T259.heap [] := ((Keep.refl _ _).trans KD335 (all0)).trans K259 (allS (Or.inr (by omega)) (all0))
  have KD337 : Keep T116.heap T301.heap [] := ((Keep.refl _ _).trans KD336 (all0)).trans KD321 (all0)
  have C338 := E116.keep KD337
  have C339 := Vf116.keep KD337 nin0
  have C340 := C116.keep KD337 nin0
  have C341 := Av116.keep KD337 nin0
  have KD342 : Keep T138.heap h157 [] := ((Keep.refl _ _).trans K155 (all0)).trans K157 (all0)
  have KD343 : Keep T138.heap h158 [] := ((Keep.refl _ _).trans KD342 (all0)).trans K158 (all0)
  have KD344 : Keep T138.heap h185 [] := ((Keep.refl _ _).trans KD343 (all0)).trans KD200 (all0)
  have KD345 : Keep T138.heap T186.heap [] := ((Keep.refl _ _).trans KD344 (all0)).trans K186 (allS (Or.inr (by omega)) (all0))
  have KD346 : Keep T138.heap h237 [] := ((Keep.refl _ _).trans KD345 (all0)).trans K237 (all0)
  have KD347 : Keep T138.heap h258 [] := ((Keep.refl _ _).trans KD346 (all0)).trans KD270 (all0)
  have KD348 : Keep T138.heap T259.heap [] := ((Keep.refl _ _).trans KD347 (all0)).trans K259 (allS (Or.inr (by omega)) (all0))
  have KD349 : Keep T138.heap T301.heap [] := ((Keep.refl _ _).trans KD348 (all0)).trans KD321 (all0)
  have C350 := E138.keep KD349
  have C351 := Vf138.keep KD349 nin0
  have C352 := C138.keep KD349 nin0
  have C353 := Av138.keep KD349 nin0
  obtain ⟨cq326, kq326, q326a, q326b, q326c⟩ := isOf hZ157 H307 Em301
  obtain ⟨_, _, ⟨T326, L326, k326, n326⟩, -, X326q, hSq326, hgr326, ⟨Lc326, hQ326, l326, y326, z326, cr326⟩, st326⟩ := X307.virtualBackS hx (y := mN41) (z := mN41) hown157 (mvT hZ157 (tw hw 136 rfl)) (mvT hZ157 (tw hw 137 rfl)) (notFace_of_selects (args := #[]) (mvT hZ157 (tw hw 139 rfl))) (mvT hZ157 (tw hw 139 rfl)) (mvT hZ157 (tw hw 138 rfl)) (by decide) (backOfSH (s := s) (vm0 := T157.vm) (EL := EL1) (W := 0) (rmMadd0 l Z a0 hw [] b300 b110 b132 cs0 (lat ([c5, c6] : List Int32)) (lat ([c7, c8] : List Int32)) t116 t138 kb116 kb138 x301 dd kD T301.heap n0 O305 S_CS c_CS S_DC V_DC (by omega : @LE.le Nat _ n0 x301) (by simp) Em301 Ml301 El301 Ld301 Ln301 Lm301 C338 C339 C340 C341 C350 C351 C352 C353) hZ157 (tw hw 140 rfl) (tw hw 49 rfl) (by decide) (by decide) hEW cR43_K301.1) q326a q326c (g := (mkF m 413 #[vI p1, vI p2, vI p3, vI p4, vI p5, vI c5, vI c6, vI c7, vI c8, vI c9, vI c10, vI 0, vR b110, vR b132, vR x155, vR b157, vR b158, vR b237, vR b300, vI 1, vR el, .unset, .unset] [(.ref b132), (.ref b110), (.ref b300)])) rfl (by rw [hml]; rfl) (Steps.refl _) (argsL := [(.ref b110), (.ref b132)]) (rest := []) (lenOf pd_14 rfl) rfl (wL _) (hb hby at_413) (fun _ _ => ⟨rfl, H307, (by decide : 18 + 9 ≤ _), (by decide : 83 + 94 ≤ _)⟩)
  dsimp only [Pt.U, Pt.locs, Pt.cells, Pt.slots] at X326q l326 y326 z326 st326 hQ326 hSq326 hgr326 cr326
  rw [l326] at X326q
  subst y326 z326
  obtain ⟨X326, hS326, hZ326, hown326⟩ := rebS (s := s) (vm0 := T157.vm) hS157 (by rw [H307]; omega) X326q hSq326 hgr326 hZ157 hown157
  obtain ⟨y326, t326, d326, kb326, kd326, rfl, N326q, K326, gy326, gt326, gd326, yd326, td326, ty326, Es326, Sv326, Sc326, Vs326, El326, Ld326, Ln326, Lm326, Ea326, Va326, Oa326⟩ := hQ326
  have lty326 : @LT.lt Nat _ y326 T326.heap.size := Es326.lt
  have ltt326 : @LT.lt Nat _ t326 T326.heap.size := Vs326.lt
  have ltd326 : @LT.lt Nat _ d326 T326.heap.size := Va326.lt
  have cR44_K326 := cR43_K301.trans cr326
  have sz44_K326 := K326.1
  have N326 := Fr.app N307 N326q
  have C355 := Em301.keep K326
  have C356 := Ml301.keep K326 (ninS (by omega : @Ne Nat b300 x301) (nin0))
  have O357 : Old Z n0 T326.heap := O305.keep K326 (allS (by omega) (all0))
  obtain ⟨cq354, kq354, q354a, q354b, q354c⟩ := isOf hZ326 rfl C355
  obtain ⟨_, _, ⟨T354, L354, k354, n354⟩, -, X354, ⟨Lc354, hQ354, l354, y354, z354⟩, st354⟩ := X326.virtualBack hx (y := mN29) (z := mN29) hown326 (mvT hZ326 (tw hw 80 rfl)) (mvT hZ326 (tw hw 81 rfl)) (notFace_of_selects (args := #[]) (mvT hZ326 (tw hw 83 rfl))) (mvT hZ326 (tw hw 83 rfl)) (mvT hZ326 (tw hw 82 rfl)) (by decide) (backOf (W := 0) (rmMie1 l Z a0 hw [] b300 x301 T326.heap n0 O357 C355 C356 El326 Ln326) hZ326 (tw hw 84 rfl) (tw hw 49 rfl) (by decide) (by decide)) q354a q354c (g := (mkF m 418 #[vI p1, vI p2, vI p3, vI p4, vI p5, vI c5, vI c6, vI c7, vI c8, vI c9, vI c10, vI 0, vR b110, vR b132, vR x155, vR b157, vR b158, vR b237, vR b300, vI 1, vR el, .unset, .unset] [(.ref b300)])) rfl (by rw [hml]; rfl) (Steps.refl _) (argsL := []) (rest := []) (lenOf pd_10 rfl) rfl (wL _) (hb hby at_418) (fun _ _ => ⟨rfl, rfl, (by decide : 27 + 0 ≤ _), (by decide : 177 + 0 ≤ _)⟩)
  dsimp only [Pt.U, Pt.locs, Pt.cells, Pt.slots] at X354 l354 y354 z354 st354 hQ354
  rw [l354] at X354
  subst y354 z354
  obtain ⟨rfl, N354q, H354⟩ := hQ354
  have N354 := Fr.app N326 N354q
  have KD359 : Keep T155.heap h158 [] := ((Keep.refl _ _).trans K157 (all0)).trans K158 (all0)
  have KD360 : Keep T155.heap h185 [] := ((Keep.refl _ _).trans KD359 (all0)).trans KD200 (all0)
  have KD361 : Keep T155.heap T186.heap [] := ((Keep.refl _ _).trans KD360 (all0)).trans K186 (allS (Or.inr (by omega)) (all0))
  have KD362 : Keep T155.heap h237 [] := ((Keep.refl _ _).trans KD361 (all0)).trans K237 (all0)
  have KD363 : Keep T155.heap h258 [] := ((Keep.refl _ _).trans KD362 (all0)).trans KD270 (all0)
  have KD364 : Keep T155.heap T259.heap [] := ((Keep.refl _ _).trans KD363 (all0)).trans K259 (allS (Or.inr (by omega)) (all0))
  have KD365 : Keep T155.heap T301.heap [] := ((Keep.refl _ _).trans KD364 (all0)).trans KD321 (all0)
  have KD366 : Keep T155.heap T326.heap [] := ((Keep.refl _ _).trans KD365 (all0)).trans K326 (allS (Or.inr (by omega)) (all0))
  have C367 := E155.keep KD366
  have C368 := F155.keep KD366 nin0
  have C369 := C155.keep KD366 nin0
  have C370 := V155.keep KD366 nin0
  have KD371 : Keep h157 h185 [] := ((Keep.refl _ _).trans K158 (all0)).trans KD200 (all0)
  have KD372 : Keep h157 T186.heap [] := ((Keep.refl _ _).trans KD371 (all0)).trans K186 (allS (Or.inr (by omega)) (all0))
  have KD373 : Keep h157 h237 [] := ((Keep.refl _ _).trans KD372 (all0)).trans K237 (all0)
  have KD374 : Keep h157 h258 [] := ((Keep.refl _ _).trans KD373 (all0)).trans KD270 (all0)
  have KD375 : Keep h157 T259.heap [] := ((Keep.refl _ _).trans KD374 (all0)).trans K259 (allS (Or.inr (by omega)) (all0))
  have KD376 : Keep h157 T301.heap [] := ((Keep.refl _ _).trans KD375 (all0)).trans KD321 (all0)
  have KD377 : Keep h157 T326.heap [] := ((Keep.refl _ _).trans KD376 (all0)).trans K326 (allS (Or.inr (by omega)) (all0))
  have C378 := Ea157.keep KD377
  have C379 := Fv157.keep KD377 nin0
  have C380 := Fc157.keep KD377 nin0
  have C381 := Av157.keep KD377 nin0
  obtain ⟨cq358, kq358, q358a, q358b, q358c⟩ := isOf hZ326 H354 C355
  obtain ⟨_, _, ⟨T358, L358, k358, n358⟩, -, X358q, hSq358, hgr358, ⟨Lc358, hQ358, l358, y358, z358, cr358⟩, st358⟩ := X354.virtualBackS hx (y := mN41) (z := mN41) hown326 (mvT hZ326 (tw hw 136 rfl)) (mvT hZ326 (tw hw 137 rfl)) (notFace_of_selects (args := #[]) (mvT hZ326 (tw hw 139 rfl))) (mvT hZ326 (tw hw 139 rfl)) (mvT hZ326 (tw hw 138 rfl)) (by decide) (backOfSH (s := s) (vm0 := T326.vm) (EL := EL1) (W := 0) (rmMadd1 l Z a0 hw [] b300 x155 b157 cs0 ([c9.toInt8.toInt32] : List Int32) ([] : List Int32) t155 t157 kb155 kb157 x301 d326 y326 kd326 T326.heap n0 O357 S_CS c_CS (by omega : @LE.le Nat _ n0 x301) (by simp) (by omega : @LE.le Nat _ n0 d326) (by omega) C355 C356 El326 Ld326 Ln326 Lm326 Ea326 Va326 Oa326 C367 C368 C369 C370 C378 C379 C380 C381) hZ326 (tw hw 140 rfl) (tw hw 49 rfl) (by decide) (by decide) hEW cR44_K326.1) q358a q358c (g := (mkF m 436 #[vI p1, vI p2, vI p3, vI p4, vI p5, vI c5, vI c6, vI c7, vI c8, vI c9, vI c10, vI 0, vR b110, vR b132, vR x155, vR b157, vR b158, vR b237, vR b300, vI 1, vR el, vI 0, .unset] [(.ref b157), (.ref x155), (.ref b300)])) rfl (by rw [hml]; rfl) (Steps.refl _) (argsL := [(.ref x155), (.ref b157)]) (rest := []) (lenOf pd_14 rfl) rfl (wL _) (hb hby at_436) (fun _ _ => ⟨rfl, H354, (by decide : 27 + 9 ≤ _), (by decide : 177 + 94 ≤ _)⟩)
  dsimp only [Pt.U, Pt.locs, Pt.cells, Pt.slots] at X358q l358 y358 z358 st358 hQ358 hSq358 hgr358 cr358
  rw [l358] at X358q
  subst y358 z358
  obtain ⟨X358, hS358, hZ358, hown358⟩ := rebS (s := s) (vm0 := T326.vm) hS326 (by rw [H354]; omega) X358q hSq358 hgr358 hZ326 hown326
  obtain ⟨y358, t358, kb358, rfl, N358q, K358, gy358, gt358, ty358, Es358, Sv358, Sc358, Vs358, El358, Ld358, Ln358, Lm358, Ea358, Va358, Oa358⟩ := hQ358
  have lty358 : @LT.lt Nat _ y358 T358.heap.size := Es358.lt
  have ltt358 : @LT.lt Nat _ t358 T358.heap.size := Vs358.lt
  have ltd358 : @LT.lt Nat _ d326 T358.heap.size := Va358.lt
  have cR45_K358 := cR44_K326.trans cr358
  have sz45_K358 := K358.1
  have N358 := Fr.app N354 N358q
  have C383 := C355.keep K358
  have C384 := C356.keep K358 (ninS (by omega : @Ne Nat b300 x301) (ninS (by omega : @Ne Nat b300 d326) (nin0)))
  have C385 := Es326.keep K358
  have O386 : Old Z n0 T358.heap := O357.keep K358 (allS (by omega) (allS (by omega) (all0)))
  obtain ⟨cq382, kq382, q382a, q382b, q382c⟩ := isOf hZ358 rfl C383
  obtain ⟨_, _, ⟨T382, L382, k382, n382⟩, -, X382, ⟨Lc382, hQ382, l382, y382, z382⟩, st382⟩ := X358.virtualBack hx (y := mN35) (z := mN35) hown358 (mvT hZ358 (tw hw 96 rfl)) (mvT hZ358 (tw hw 97 rfl)) (notFace_of_selects (args := #[]) (mvT hZ358 (tw hw 99 rfl))) (mvT hZ358 (tw hw 99 rfl)) (mvT hZ358 (tw hw 98 rfl)) (by decide) (backOf (W := 0) (rmLi2 l Z a0 hw [] b300 x301 d326 y326 y358 mr kd326 T358.heap n0 O386 MR C383 C384 El358 Ld358 Ln358 Ea358 Va358 Oa358 C385 Es358) hZ358 (tw hw 100 rfl) (tw hw 49 rfl) (by decide) (by decide)) q382a q382c (g := (mkF m 441 #[vI p1, vI p2, vI p3, vI p4, vI p5, vI c5, vI c6, vI c7, vI c8, vI c9, vI c10, vI 0, vR b110, vR b132, vR x155, vR b157, vR b158, vR b237, vR b300, vI 1, vR el, vI 0, .unset] [(.ref b300)])) rfl (by rw [hml]; rfl) (Steps.refl _) (argsL := []) (rest := []) (lenOf pd_11 rfl) rfl (wL _) (hb hby at_441) (fun _ _ => ⟨rfl, rfl, (by decide : 36 + 2 ≤ _), (by decide : 271 + 4 ≤ _)⟩)
  dsimp only [Pt.U, Pt.locs, Pt.cells, Pt.slots] at X382 l382 y382 z382 st382 hQ382
  rw [l382] at X382
  subst y382 z382
  obtain ⟨x382, rfl, N382q, K382, gx382, Et382, Ta382, Tb382⟩ := hQ382
  have ltx382 : @LT.lt Nat _ x382 T382.heap.size := Et382.lt
  have cR46_K382 := cR45_K358.trans (CHr.keep K382 sf0 cR45_K358.1)
  have sz46_K382 := K382.1
  have N382 := Fr.app N358 N382q
  have O388 : Old Z n0 T382.heap := O386.keep K382 all0
  obtain ⟨cq387, kq387, q387a, q387b, q387c⟩ := isOf hZ358 rfl Et382
  obtain ⟨_, _, ⟨T387, L387, k387, n387⟩, -, X387, ⟨Lc387, hQ387, l387, y387, z387⟩, st387⟩ := X382.interfaceBack hx (xi := mN57) (y := mN50) hown358 (mvT hZ358 (tw hw 124 rfl)) (mvT hZ358 (tw hw 125 rfl)) (mvT hZ358 (tw hw 126 rfl)) (mvT hZ358 (tw hw 338 rfl)) (mvT hZ358 (tw hw 339 rfl)) (mvT hZ358 (tw hw 340 rfl)) (mvT hZ358 (tw hw 341 rfl)) (mvT hZ358 (tw hw 342 rfl)) (by decide) (backOf (W := 0) (rmSz2 l Z a0 hw [] x382 y326 y358 em T382.heap n0 O388 S_EM hem (by omega : @LE.le Nat _ n0 y358) Et382 Ta382 Tb382) hZ358 (tw hw 343 rfl) (tw hw 311 rfl) (by decide) (by decide)) q387a q387b q387c (g := (mkF m 448 #[vI p1, vI p2, vI p3, vI p4, vI p5, vI c5, vI c6, vI c7, vI c8, vI c9, vI c10, vI 0, vR b110, vR b132, vR x155, vR b157, vR b158, vR b237, vR b300, vI 1, vR el, vI 0, vR x382] [(.ref x382)])) rfl (by rw [hml]; rfl) (Steps.refl _) (argsL := []) (rest := []) (lenOf pd_13 rfl) rfl (wL _) (hb hby at_448) (fun _ _ => ⟨rfl, rfl, (by decide : 38 + 0 ≤ _), (by decide : 275 + 0 ≤ _)⟩)
  dsimp only [Pt.U, Pt.locs, Pt.cells, Pt.slots] at X387 l387 y387 z387 st387 hQ387
  rw [l387] at X387
  subst y387 z387
  obtain ⟨rfl, N387q, H387⟩ := hQ387
  have N387 := Fr.app N382 N387q
  obtain ⟨cq389, kq389, q389a, q389b, q389c⟩ := isOf hZ358 H387 Et382
  obtain ⟨_, _, ⟨T389, L389, k389, n389⟩, -, X389, ⟨Lc389, hQ389, l389, y389, z389⟩, st389⟩ := X387.interfaceBack hx (xi := mN58) (y := mN51) hown358 (mvT hZ358 (tw hw 345 rfl)) (mvT hZ358 (tw hw 346 rfl)) (mvT hZ358 (tw hw 347 rfl)) (mvT hZ358 (tw hw 348 rfl)) (mvT hZ358 (tw hw 349 rfl)) (mvT hZ358 (tw hw 350 rfl)) (mvT hZ358 (tw hw 351 rfl)) (mvT hZ358 (tw hw 342 rfl)) (by decide) (backOf (W := 1) (rmGet0 l Z a0 hw [] x382 y326 y358 em T382.heap n0 O388 S_EM hem (by omega : @LE.le Nat _ n0 y358) Et382 Ta382 Tb382) hZ358 (tw hw 352 rfl) (tw hw 311 rfl) (by decide) (by decide)) q389a q389b q389c (g := (mkF m 464 #[vI p1, vI p2, vI p3, vI p4, vI p5, vI c5, vI c6, vI c7, vI c8, vI c9, vI c10, vI 0, vR b110, vR b132, vR x155, vR b157, vR b158, vR b237, vR b300, vI 1, vR el, vI 0, vR x382] [(.int 0), (.ref x382), (.ref b158)])) rfl (by rw [hml]; rfl) (Steps.refl _) (argsL := [(.int 0)]) (rest := [(.ref b158)]) (lenOf pd_40 rfl) rfl (wL _) (hb hby at_464) (fun _ _ => ⟨rfl, H387, (by decide : 38 + 0 ≤ _), (by decide : 275 + 0 ≤ _)⟩)
  dsimp only [Pt.U, Pt.locs, Pt.cells, Pt.slots] at X389 l389 y389 z389 st389 hQ389
  rw [l389] at X389
  subst y389 z389
  obtain ⟨rfl, N389q, H389⟩ := hQ389
  have N389 := Fr.app N387 N389q
  have KD391 : Keep T186.heap h258 [] := ((Keep.refl _ _).trans K237 (all0)).trans KD270 (all0)
  have KD392 : Keep T186.heap T259.heap [] := ((Keep.refl _ _).trans KD391 (all0)).trans K259 (allS (Or.inr (by omega)) (all0))
  have KD393 : Keep T186.heap T301.heap [] := ((Keep.refl _ _).trans KD392 (all0)).trans KD321 (all0)
  have KD394 : Keep T186.heap T326.heap [] := ((Keep.refl _ _).trans KD393 (all0)).trans K326 (allS (Or.inr (by omega)) (all0))
  have KD395 : Keep T186.heap T358.heap [] := ((Keep.refl _ _).trans KD394 (all0)).trans K358 (allS (Or.inr (by omega)) (allS (Or.inr (by omega)) (all0)))
  have KD396 : Keep T186.heap T382.heap [] := ((Keep.refl _ _).trans KD395 (all0)).trans K382 (all0)
  have C397 := E186.keep KD396
  have C398 := Vf186.keep KD396 nin0
  have C399 := C186.keep KD396 nin0
  have C400 := Av186.keep KD396 nin0
  have C401 := C385.keep K382
  have KD402 : Keep T326.heap T382.heap [x301, d326] := ((Keep.refl _ _).trans K358 (allS (Or.inl (List.mem_of_getElem? (i := 0) rfl)) (allS (Or.inl (List.mem_of_getElem? (i := 1) rfl)) (all0)))).trans K382 (all0)
  have C403 := Sv326.keep KD402 (ninS (by omega : @Ne Nat y326 x301) (ninS (by omega : @Ne Nat y326 d326) (nin0)))
  have C404 := Sc326.keep KD402 (ninS (by omega : @Ne Nat y326 x301) (ninS (by omega : @Ne Nat y326 d326) (nin0)))
  have C405 := Vs326.keep KD402 (ninS (by omega : @Ne Nat t326 x301) (ninS (by omega : @Ne Nat t326 d326) (nin0)))
  obtain ⟨cq390, kq390, q390a, q390b, q390c⟩ := isOf hZ358 H389 C397
  obtain ⟨_, _, ⟨T390, L390, k390, n390⟩, -, X390, ⟨Lc390, hQ390, l390, y390, z390⟩, st390⟩ := X389.virtualBack hx (y := mN59) (z := mN59) hown358 (mvT hZ358 (tw hw 353 rfl)) (mvT hZ358 (tw hw 354 rfl)) (notFace_of_selects (args := #[]) (mvT hZ358 (tw hw 356 rfl))) (mvT hZ358 (tw hw 356 rfl)) (mvT hZ358 (tw hw 355 rfl)) (by decide) (StrChars.Road.eqW (W := 0) hZ358 hwq (kI := 4) (tw hw 1 rfl) (cs := ([(101 : Int32), (114 : Int32), (114 : Int32), (111 : Int32), (114 : Int32), (91 : Int32), c5, c6, (93 : Int32), (58 : Int32), (32 : Int32), c7, c8] : List Int32)) C397 C398 C399 C400 (StrChars.Road.codOf (n := 13) rfl (fun c hc => (hL187 c hc).2)) (fun c hc => own_c255 (hL187 c hc)) (by simp) (ds := ([(101 : Int32), (114 : Int32), (114 : Int32), (111 : Int32), (114 : Int32), (91 : Int32), c5, c6, (93 : Int32), (58 : Int32), (32 : Int32), c7, c8] : List Int32)) C401 C403 C404 C405 (StrChars.Road.codOf (n := 13) rfl (fun c hc => (hL187 c hc).2)) (fun c hc => own_c255 (hL187 c hc)) (by simp) (Sta.ext O388.2 S_CS) c_CS (by decide) (by decide)) q390a q390c (g := (mkF m 469 #[vI p1, vI p2, vI p3, vI p4, vI p5, vI c5, vI c6, vI c7, vI c8, vI c9, vI c10, vI 0, vR b110, vR b132, vR x155, vR b157, vR b158, vR b237, vR b300, vI 1, vR el, vI 0, vR x382] [(.ref y326), (.ref b158)])) rfl (by rw [hml]; rfl) (Steps.refl _) (argsL := [(.ref y326)]) (rest := []) (lenOf pd_30 rfl) rfl (wL _) (hb hby at_469) (fun _ _ => ⟨rfl, H389, (by decide : 38 + 0 ≤ _), (by decide : 275 + 0 ≤ _)⟩)
  dsimp only [Pt.U, Pt.locs, Pt.cells, Pt.slots] at X390 l390 y390 z390 st390 hQ390
  rw [l390] at X390
  subst y390 z390
  obtain ⟨hv390, hL390, H390⟩ := hQ390
  obtain rfl := (hv390.elim (fun q => q.1) (fun q => absurd rfl q.2) : _ = some (Value.int 1))
  subst hL390
  have N390q := Fr.nil n0
  have N390 := Fr.app N389 N390q
  obtain ⟨cq406, kq406, q406a, q406b, q406c⟩ := isOf hZ358 H390 Et382
  obtain ⟨_, _, ⟨T406, L406, k406, n406⟩, -, X406, ⟨Lc406, hQ406, l406, y406, z406⟩, st406⟩ := X390.interfaceBack hx (xi := mN58) (y := mN51) hown358 (mvT hZ358 (tw hw 345 rfl)) (mvT hZ358 (tw hw 346 rfl)) (mvT hZ358 (tw hw 347 rfl)) (mvT hZ358 (tw hw 348 rfl)) (mvT hZ358 (tw hw 349 rfl)) (mvT hZ358 (tw hw 350 rfl)) (mvT hZ358 (tw hw 351 rfl)) (mvT hZ358 (tw hw 342 rfl)) (by decide) (backOf (W := 1) (rmGet1 l Z a0 hw [] x382 y326 y358 em T382.heap n0 O388 S_EM hem (by omega : @LE.le Nat _ n0 y358) Et382 Ta382 Tb382) hZ358 (tw hw 352 rfl) (tw hw 311 rfl) (by decide) (by decide)) q406a q406b q406c (g := (mkF m 480 #[vI p1, vI p2, vI p3, vI p4, vI p5, vI c5, vI c6, vI c7, vI c8, vI c9, vI c10, vI 0, vR b110, vR b132, vR x155, vR b157, vR b158, vR b237, vR b300, vI 1, vR el, vI 0, vR x382] [(.int 1), (.ref x382), (.ref b237)])) rfl (by rw [hml]; rfl) (Steps.refl _) (argsL := [(.int 1)]) (rest := [(.ref b237)]) (lenOf pd_40 rfl) rfl (wL _) (hb hby at_480) (fun _ _ => ⟨rfl, H390, (by decide : 38 + 0 ≤ _), (by decide : 275 + 0 ≤ _)⟩)
  dsimp only [Pt.U, Pt.locs, Pt.cells, Pt.slots] at X406 l406 y406 z406 st406 hQ406
  rw [l406] at X406
  subst y406 z406
  obtain ⟨rfl, N406q, H406⟩ := hQ406
  have N406 := Fr.app N390 N406q
  have KD408 : Keep T259.heap T326.heap [] := ((Keep.refl _ _).trans KD321 (all0)).trans K326 (allS (Or.inr (by omega)) (all0))
  have KD409 : Keep T259.heap T382.heap [] := ((Keep.refl _ _).trans KD408 (all0)).trans KD402 (allS (Or.inr (by omega)) (allS (Or.inr (by omega)) (all0)))
  have C410 := E259.keep KD409
  have C411 := Vf259.keep KD409 nin0
  have C412 := C259.keep KD409 nin0
  have C413 := Av259.keep KD409 nin0
  have C414 := Es358.keep K382
  have C415 := Sv358.keep K382 nin0
  have C416 := Sc358.keep K382 nin0
  have C417 := Vs358.keep K382 nin0
  obtain ⟨cq407, kq407, q407a, q407b, q407c⟩ := isOf hZ358 H406 C410
  obtain ⟨_, _, ⟨T407, L407, k407, n407⟩, -, X407, ⟨Lc407, hQ407, l407, y407, z407⟩, st407⟩ := X406.virtualBack hx (y := mN59) (z := mN59) hown358 (mvT hZ358 (tw hw 353 rfl)) (mvT hZ358 (tw hw 354 rfl)) (notFace_of_selects (args := #[]) (mvT hZ358 (tw hw 356 rfl))) (mvT hZ358 (tw hw 356 rfl)) (mvT hZ358 (tw hw 355 rfl)) (by decide) (StrChars.Road.eqW (W := 0) hZ358 hwq (kI := 4) (tw hw 1 rfl) (cs := ([(101 : Int32), (114 : Int32), (114 : Int32), (111 : Int32), (114 : Int32), (91 : Int32), c9, (93 : Int32), (58 : Int32), (32 : Int32)] : List Int32)) C410 C411 C412 C413 (StrChars.Road.codOf (n := 10) rfl (fun c hc => (hL260 c hc).2)) (fun c hc => own_c255 (hL260 c hc)) (by simp) (ds := ([(101 : Int32), (114 : Int32), (114 : Int32), (111 : Int32), (114 : Int32), (91 : Int32), c9, (93 : Int32), (58 : Int32), (32 : Int32)] : List Int32)) C414 C415 C416 C417 (StrChars.Road.codOf (n := 10) rfl (fun c hc => (hL260 c hc).2)) (fun c hc => own_c255 (hL260 c hc)) (by simp) (Sta.ext O388.2 S_CS) c_CS (by decide) (by decide)) q407a q407c (g := (mkF m 485 #[vI p1, vI p2, vI p3, vI p4, vI p5, vI c5, vI c6, vI c7, vI c8, vI c9, vI c10, vI 0, vR b110, vR b132, vR x155, vR b157, vR b158, vR b237, vR b300, vI 1, vR el, vI 0, vR x382] [(.ref y358), (.ref b237)])) rfl (by rw [hml]; rfl) (Steps.refl _) (argsL := [(.ref y358)]) (rest := []) (lenOf pd_30 rfl) rfl (wL _) (hb hby at_485) (fun _ _ => ⟨rfl, H406, (by decide : 38 + 0 ≤ _), (by decide : 275 + 0 ≤ _)⟩)
  dsimp only [Pt.U, Pt.locs, Pt.cells, Pt.slots] at X407 l407 y407 z407 st407 hQ407
  rw [l407] at X407
  subst y407 z407
  obtain ⟨hv407, hL407, H407⟩ := hQ407
  obtain rfl := (hv407.elim (fun q => q.1) (fun q => absurd rfl q.2) : _ = some (Value.int 1))
  subst hL407
  have N407q := Fr.nil n0
  have N407 := Fr.app N406 N407q
  have C419 := C383.keep K382
  have C420 := C384.keep K382 nin0
  have C421 := El358.keep K382
  have C422 := Ln358.keep K382 nin0
  obtain ⟨cq418, kq418, q418a, q418b, q418c⟩ := isOf hZ358 H407 C419
  obtain ⟨_, _, ⟨T418, L418, k418, n418⟩, -, X418, ⟨Lc418, hQ418, l418, y418, z418⟩, st418⟩ := X407.virtualBack hx (y := mN29) (z := mN29) hown358 (mvT hZ358 (tw hw 80 rfl)) (mvT hZ358 (tw hw 81 rfl)) (notFace_of_selects (args := #[]) (mvT hZ358 (tw hw 83 rfl))) (mvT hZ358 (tw hw 83 rfl)) (mvT hZ358 (tw hw 82 rfl)) (by decide) (backOf (W := 0) (rmMie2 l Z a0 hw [] b300 x301 T382.heap n0 O388 C419 C420 C421 C422) hZ358 (tw hw 84 rfl) (tw hw 49 rfl) (by decide) (by decide)) q418a q418c (g := (mkF m 493 #[vI p1, vI p2, vI p3, vI p4, vI p5, vI c5, vI c6, vI c7, vI c8, vI c9, vI c10, vI 0, vR b110, vR b132, vR x155, vR b157, vR b158, vR b237, vR b300, vI 1, vR el, vI 0, vR x382] [(.ref b300)])) rfl (by rw [hml]; rfl) (Steps.refl _) (argsL := []) (rest := []) (lenOf pd_10 rfl) rfl (wL _) (hb hby at_493) (fun _ _ => ⟨rfl, H407, (by decide : 38 + 0 ≤ _), (by decide : 275 + 0 ≤ _)⟩)
  dsimp only [Pt.U, Pt.locs, Pt.cells, Pt.slots] at X418 l418 y418 z418 st418 hQ418
  rw [l418] at X418
  subst y418 z418
  obtain ⟨rfl, N418q, H418⟩ := hQ418
  have N418 := Fr.app N407 N418q
  obtain ⟨fs, hr, hrun, hended, eR, eW, eI, eS⟩ := Stand.leaveW (s := s) (vm₁ := T358.vm) X418 hS358 (by rw [H418]; omega) (v := some (.int 1)) (nvr Bd.returns)
  refine ⟨_, _, pre109 _ ?_, hrun, hended, _, _, rfl, ?_, eR, eW, eI, eS.mono (by decide) (by decide)⟩
  ·skip
   show SS p e below s₁ m 58 #[vI p1, vI p2, vI p3, vI p4, vI p5, vI c5, vI c6, vI c7, vI c8, vI c9, vI c10, .unset, .unset, .unset, .unset, .unset, .unset, .unset, .unset, .unset, .unset, .unset, .unset] [(.int (p5 &&& (1 : Int32)))] _
   refine XS.ifYes X0.here hx rfl (pc0 := 58) (pc' := 65) rfl (hb hby at_58) rfl ((if0 _ _).trans (teq hc108).1) (by decide) (by decide) ?_
   refine XS.iconst X0.here hx rfl (hb hby at_65) ?_
   refine XS.istore X0.here hx rfl (hb hby at_66) rfl (l' := #[vI p1, vI p2, vI p3, vI p4, vI p5, vI c5, vI c6, vI c7, vI c8, vI c9, vI c10, vI 0, .unset, .unset, .unset, .unset, .unset, .unset, .unset, .unset, .unset, .unset, .unset]) rfl ?_
   show SS p e below s₁ m 68 #[vI p1, vI p2, vI p3, vI p4, vI p5, vI c5, vI c6, vI c7, vI c8, vI c9, vI c10, vI 0, .unset, .unset, .unset, .unset, .unset, .unset, .unset, .unset, .unset, .unset, .unset] [] _
   refine st110 _ ?_
   refine XS.dup X110.here hx rfl (hb hby at_71) rfl rfl ?_
   refine XS.iconst X110.here hx rfl (hb hby at_72) ?_
   show SS p e below T110 m 73 #[vI p1, vI p2, vI p3, vI p4, vI p5, vI c5, vI c6, vI c7, vI c8, vI c9, vI c10, vI 0, .unset, .unset, .unset, .unset, .unset, .unset, .unset, .unset, .unset, .unset, .unset] [(.int 2), (.ref b110), (.ref b110)] _
   refine st111 _ ?_
   refine XS.dup X111.here hx rfl (hb hby at_75) rfl rfl ?_
   refine XS.iconst X111.here hx rfl (hb hby at_76) ?_
   refine XS.iload X111.here hx rfl (hb hby at_77) rfl ?_
   show SS p e below T111 m 79 #[vI p1, vI p2, vI p3, vI p4, vI p5, vI c5, vI c6, vI c7, vI c8, vI c9, vI c10, vI 0, .unset, .unset, .unset, .unset, .unset, .unset, .unset, .unset, .unset, .unset, .unset] [(.int c5), (.int 0), (.ref b111), (.ref b111), (.ref b110), (.ref b110)] _
   refine st113 _ ?_
   refine XS.dup X113.here hx rfl (hb hby at_80) rfl rfl ?_
   refine XS.iconst X113.here hx rfl (hb hby at_81) ?_
   refine XS.iload X113.here hx rfl (hb hby at_82) rfl ?_
   show SS p e below T113 m 84 #[vI p1, vI p2, vI p3, vI p4, vI p5, vI c5, vI c6, vI c7, vI c8, vI c9, vI c10, vI 0, .unset, .unset, .unset, .unset, .unset, .unset, .unset, .unset, .unset, .unset, .unset] [(.int c6), (.int 1), (.ref b111), (.ref b111), (.ref b110), (.ref b110)] _
   refine st115 _ ?_
   show SS p e below T115 m 85 #[vI p1, vI p2, vI p3, vI p4, vI p5, vI c5, vI c6, vI c7, vI c8, vI c9, vI c10, vI 0, .unset, .unset, .unset, .unset, .unset, .unset, .unset, .unset, .unset, .unset, .unset] [(.ref b111), (.ref b110), (.ref b110)] _
   refine st116.trans ?_
   refine XS.astore X116.here hx rfl (hb hby at_88) rfl rfl (l' := #[vI p1, vI p2, vI p3, vI p4, vI p5, vI c5, vI c6, vI c7, vI c8, vI c9, vI c10, vI 0, vR b110, .unset, .unset, .unset, .unset, .unset, .unset, .unset, .unset, .unset, .unset]) rfl ?_
   show SS p e below T116 m 90 #[vI p1, vI p2, vI p3, vI p4, vI p5, vI c5, vI c6, vI c7, vI c8, vI c9, vI c10, vI 0, vR b110, .unset, .unset, .unset, .unset, .unset, .unset, .unset, .unset, .unset, .unset] [] _
   refine st132 _ ?_
   refine XS.dup X132.here hx rfl (hb hby at_93) rfl rfl ?_
   refine XS.iconst X132.here hx rfl (hb hby at_94) ?_
   show SS p e below T132 m 95 #[vI p1, vI p2, vI p3, vI p4, vI p5, vI c5, vI c6, vI c7, vI c8, vI c9, vI c10, vI 0, vR b110, .unset, .unset, .unset, .unset, .unset, .unset, .unset, .unset, .unset, .unset] [(.int 2), (.ref b132), (.ref b132)] _
   refine st133 _ ?_
   refine XS.dup X133.here hx rfl (hb hby at_97) rfl rfl ?_
   refine XS.iconst X133.here hx rfl (hb hby at_98) ?_
   refine XS.iload X133.here hx rfl (hb hby at_99) rfl ?_
   show SS p e below T133 m 101 #[vI p1, vI p2, vI p3, vI p4, vI p5, vI c5, vI c6, vI c7, vI c8, vI c9, vI c10, vI 0, vR b110, .unset, .unset, .unset, .unset, .unset, .unset, .unset, .unset, .unset, .unset] [(.int c7), (.int 0), (.ref b133), (.ref b133), (.ref b132), (.ref b132)] _
   refine st135 _ ?_
   refine XS.dup X135.here hx rfl (hb hby at_102) rfl rfl ?_
   refine XS.iconst X135.here hx rfl (hb hby at_103) ?_
   refine XS.iload X135.here hx rfl (hb hby at_104) rfl ?_
   show SS p e below T135 m 106 #[vI p1, vI p2, vI p3, vI p4, vI p5, vI c5, vI c6, vI c7, vI c8, vI c9, vI c10, vI 0, vR b110, .unset, .unset, .unset, .unset, .unset, .unset, .unset, .unset, .unset, .unset] [(.int c8), (.int 1), (.ref b133), (.ref b133), (.ref b132), (.ref b132)] _
   refine st137 _ ?_
   show SS p e below T137 m 107 #[vI p1, vI p2, vI p3, vI p4, vI p5, vI c5, vI c6, vI c7, vI c8, vI c9, vI c10, vI 0, vR b110, .unset, .unset, .unset, .unset, .unset, .unset, .unset, .unset, .unset, .unset] [(.ref b133), (.ref b132), (.ref b132)] _
   refine st138.trans ?_
   refine XS.astore X138.here hx rfl (hb hby at_110) rfl rfl (l' := #[vI p1, vI p2, vI p3, vI p4, vI p5, vI c5, vI c6, vI c7, vI c8, vI c9, vI c10, vI 0, vR b110, vR b132, .unset, .unset, .unset, .unset, .unset, .unset, .unset, .unset, .unset]) rfl ?_
   refine XS.iload X138.here hx rfl (hb hby at_112) rfl ?_
   show SS p e below T138 m 114 #[vI p1, vI p2, vI p3, vI p4, vI p5, vI c5, vI c6, vI c7, vI c8, vI c9, vI c10, vI 0, vR b110, vR b132, .unset, .unset, .unset, .unset, .unset, .unset, .unset, .unset, .unset] [(.int c9)] _
   refine st155 _ ?_
   refine XS.astore X155.here hx rfl (hb hby at_117) rfl rfl (l' := #[vI p1, vI p2, vI p3, vI p4, vI p5, vI c5, vI c6, vI c7, vI c8, vI c9, vI c10, vI 0, vR b110, vR b132, vR x155, .unset, .unset, .unset, .unset, .unset, .unset, .unset, .unset]) rfl ?_
   refine XS.iload X155.here hx rfl (hb hby at_119) rfl ?_
   refine XS.ifYes X155.here hx rfl (pc0 := 121) (pc' := 132) rfl (hb hby at_121) rfl ((if0 _ _).trans (teq (by decide : (0 : Int32) = (0 : Int32))).1) (by decide) (by decide) ?_
   show SS p e below T155 m 132 #[vI p1, vI p2, vI p3, vI p4, vI p5, vI c5, vI c6, vI c7, vI c8, vI c9, vI c10, vI 0, vR b110, vR b132, vR x155, .unset, .unset, .unset, .unset, .unset, .unset, .unset, .unset] [] _
   refine st157 _ ?_
   refine XS.astore X157.here hx rfl (hb hby at_134) rfl rfl (l' := #[vI p1, vI p2, vI p3, vI p4, vI p5, vI c5, vI c6, vI c7, vI c8, vI c9, vI c10, vI 0, vR b110, vR b132, vR x155, vR b157, .unset, .unset, .unset, .unset, .unset, .unset, .unset]) rfl ?_
   show SS p e below T157 m 136 #[vI p1, vI p2, vI p3, vI p4, vI p5, vI c5, vI c6, vI c7, vI c8, vI c9, vI c10, vI 0, vR b110, vR b132, vR x155, vR b157, .unset, .unset, .unset, .unset, .unset, .unset, .unset] [] _
   refine st158 _ ?_
   refine XS.dup X158.here hx rfl (hb hby at_139) rfl rfl ?_
   refine XS.bipush X158.here hx rfl (hb hby at_140) ?_
   show SS p e below T158 m 142 #[vI p1, vI p2, vI p3, vI p4, vI p5, vI c5, vI c6, vI c7, vI c8, vI c9, vI c10, vI 0, vR b110, vR b132, vR x155, vR b157, .unset, .unset, .unset, .unset, .unset, .unset, .unset] [(.int 13), (.ref b158), (.ref b158)] _
   refine st159 _ ?_
   refine XS.dup X159.here hx rfl (hb hby at_144) rfl rfl ?_
   refine XS.iconst X159.here hx rfl (hb hby at_145) ?_
   refine XS.bipush X159.here hx rfl (hb hby at_146) ?_
   show SS p e below T159 m 148 #[vI p1, vI p2, vI p3, vI p4, vI p5, vI c5, vI c6, vI c7, vI c8, vI c9, vI c10, vI 0, vR b110, vR b132, vR x155, vR b157, .unset, .unset, .unset, .unset, .unset, .unset, .unset] [(.int 101), (.int 0), (.ref b159), (.ref b159), (.ref b158), (.ref b158)] _
   refine st161 _ ?_
   refine XS.dup X161.here hx rfl (hb hby at_149) rfl rfl ?_
   refine XS.iconst X161.here hx rfl (hb hby at_150) ?_
   refine XS.bipush X161.here hx rfl (hb hby at_151) ?_
   show SS p e below T161 m 153 #[vI p1, vI p2, vI p3, vI p4, vI p5, vI c5, vI c6, vI c7, vI c8, vI c9, vI c10, vI 0, vR b110, vR b132, vR x155, vR b157, .unset, .unset, .unset, .unset, .unset, .unset, .unset] [(.int 114), (.int 1), (.ref b159), (.ref b159), (.ref b158), (.ref b158)] _
   refine st163 _ ?_
   refine XS.dup X163.here hx rfl (hb hby at_154) rfl rfl ?_
   refine XS.iconst X163.here hx rfl (hb hby at_155) ?_
   refine XS.bipush X163.here hx rfl (hb hby at_156) ?_
   show SS p e below T163 m 158 #[vI p1, vI p2, vI p3, vI p4, vI p5, vI c5, vI c6, vI c7, vI c8, vI c9, vI c10, vI 0, vR b110, vR b132, vR x155, vR b157, .unset, .unset, .unset, .unset, .unset, .unset, .unset] [(.int 114), (.int 2), (.ref b159), (.ref b159), (.ref b158), (.ref b158)] _
   refine st165 _ ?_
   refine XS.dup X165.here hx rfl (hb hby at_159) rfl rfl ?_
   refine XS.iconst X165.here hx rfl (hb hby at_160) ?_
   refine XS.bipush X165.here hx rfl (hb hby at_161) ?_
   show SS p e below T165 m 163 #[vI p1, vI p2, vI p3, vI p4, vI p5, vI c5, vI c6, vI c7, vI c8, vI c9, vI c10, vI 0, vR b110, vR b132, vR x155, vR b157, .unset, .unset, .unset, .unset, .unset, .unset, .unset] [(.int 111), (.int 3), (.ref b159), (.ref b159), (.ref b158), (.ref b158)] _
   refine st167 _ ?_
   refine XS.dup X167.here hx rfl (hb hby at_164) rfl rfl ?_
   refine XS.iconst X167.here hx rfl (hb hby at_165) ?_
   refine XS.bipush X167.here hx rfl (hb hby at_166) ?_
   show SS p e below T167 m 168 #[vI p1, vI p2, vI p3, vI p4, vI p5, vI c5, vI c6, vI c7, vI c8, vI c9, vI c10, vI 0, vR b110, vR b132, vR x155, vR b157, .unset, .unset, .unset, .unset, .unset, .unset, .unset] [(.int 114), (.int 4), (.ref b159), (.ref b159), (.ref b158), (.ref b158)] _
   refine st169 _ ?_
   refine XS.dup X169.here hx rfl (hb hby at_169) rfl rfl ?_
   refine XS.iconst X169.here hx rfl (hb hby at_170) ?_
   refine XS.bipush X169.here hx rfl (hb hby at_171) ?_
   show SS p e below T169 m 173 #[vI p1, vI p2, vI p3, vI p4, vI p5, vI c5, vI c6, vI c7, vI c8, vI c9, vI c10, vI 0, vR b110, vR b132, vR x155, vR b157, .unset, .unset, .unset, .unset, .unset, .unset, .unset] [(.int 91), (.int 5), (.ref b159), (.ref b159), (.ref b158), (.ref b158)] _
   refine st171 _ ?_
   refine XS.dup X171.here hx rfl (hb hby at_174) rfl rfl ?_
   refine XS.bipush X171.here hx rfl (hb hby at_175) ?_
   refine XS.iload X171.here hx rfl (hb hby at_177) rfl ?_
   show SS p e below T171 m 179 #[vI p1, vI p2, vI p3, vI p4, vI p5, vI c5, vI c6, vI c7, vI c8, vI c9, vI c10, vI 0, vR b110, vR b132, vR x155, vR b157, .unset, .unset, .unset, .unset, .unset, .unset, .unset] [(.int c5), (.int 6), (.ref b159), (.ref b159), (.ref b158), (.ref b158)] _
   refine st173 _ ?_
   refine XS.dup X173.here hx rfl (hb hby at_180) rfl rfl ?_
   refine XS.bipush X173.here hx rfl (hb hby at_181) ?_
   refine XS.iload X173.here hx rfl (hb hby at_183) rfl ?_
   show SS p e below T173 m 185 #[vI p1, vI p2, vI p3, vI p4, vI p5, vI c5, vI c6, vI c7, vI c8, vI c9, vI c10, vI 0, vR b110, vR b132, vR x155, vR b157, .unset, .unset, .unset, .unset, .unset, .unset, .unset] [(.int c6), (.int 7), (.ref b159), (.ref b159), (.ref b158), (.ref b158)] _
   refine st175 _ ?_
   refine XS.dup X175.here hx rfl (hb hby at_186) rfl rfl ?_
   refine XS.bipush X175.here hx rfl (hb hby at_187) ?_
   refine XS.bipush X175.here hx rfl (hb hby at_189) ?_
   show SS p e below T175 m 191 #[vI p1, vI p2, vI p3, vI p4, vI p5, vI c5, vI c6, vI c7, vI c8, vI c9, vI c10, vI 0, vR b110, vR b132, vR x155, vR b157, .unset, .unset, .unset, .unset, .unset, .unset, .unset] [(.int 93), (.int 8), (.ref b159), (.ref b159), (.ref b158), (.ref b158)] _
   refine st177 _ ?_
   refine XS.dup X177.here hx rfl (hb hby at_192) rfl rfl ?_
   refine XS.bipush X177.here hx rfl (hb hby at_193) ?_
   refine XS.bipush X177.here hx rfl (hb hby at_195) ?_
   show SS p e below T177 m 197 #[vI p1, vI p2, vI p3, vI p4, vI p5, vI c5, vI c6, vI c7, vI c8, vI c9, vI c10, vI 0, vR b110, vR b132, vR x155, vR b157, .unset, .unset, .unset, .unset, .unset, .unset, .unset] [(.int 58), (.int 9), (.ref b159), (.ref b159), (.ref b158), (.ref b158)] _
   refine st179 _ ?_
   refine XS.dup X179.here hx rfl (hb hby at_198) rfl rfl ?_
   refine XS.bipush X179.here hx rfl (hb hby at_199) ?_
   refine XS.bipush X179.here hx rfl (hb hby at_201) ?_
   show SS p e below T179 m 203 #[vI p1, vI p2, vI p3, vI p4, vI p5, vI c5, vI c6, vI c7, vI c8, vI c9, vI c10, vI 0, vR b110, vR b132, vR x155, vR b157, .unset, .unset, .unset, .unset, .unset, .unset, .unset] [(.int 32), (.int 10), (.ref b159), (.ref b159), (.ref b158), (.ref b158)] _
   refine st181 _ ?_
   refine XS.dup X181.here hx rfl (hb hby at_204) rfl rfl ?_
   refine XS.bipush X181.here hx rfl (hb hby at_205) ?_
   refine XS.iload X181.here hx rfl (hb hby at_207) rfl ?_
   show SS p e below T181 m 209 #[vI p1, vI p2, vI p3, vI p4, vI p5, vI c5, vI c6, vI c7, vI c8, vI c9, vI c10, vI 0, vR b110, vR b132, vR x155, vR b157, .unset, .unset, .unset, .unset, .unset, .unset, .unset] [(.int c7), (.int 11), (.ref b159), (.ref b159), (.ref b158), (.ref b158)] _
   refine st183 _ ?_
   refine XS.dup X183.here hx rfl (hb hby at_210) rfl rfl ?_
   refine XS.bipush X183.here hx rfl (hb hby at_211) ?_
   refine XS.iload X183.here hx rfl (hb hby at_213) rfl ?_
   show SS p e below T183 m 215 #[vI p1, vI p2, vI p3, vI p4, vI p5, vI c5, vI c6, vI c7, vI c8, vI c9, vI c10, vI 0, vR b110, vR b132, vR x155, vR b157, .unset, .unset, .unset, .unset, .unset, .unset, .unset] [(.int c8), (.int 12), (.ref b159), (.ref b159), (.ref b158), (.ref b158)] _
   refine st185 _ ?_
   show SS p e below T185 m 216 #[vI p1, vI p2, vI p3, vI p4, vI p5, vI c5, vI c6, vI c7, vI c8, vI c9, vI c10, vI 0, vR b110, vR b132, vR x155, vR b157, .unset, .unset, .unset, .unset, .unset, .unset, .unset] [(.ref b159), (.ref b158), (.ref b158)] _
   refine st186.trans ?_
   refine XS.astore X186.here hx rfl (hb hby at_219) rfl rfl (l' := #[vI p1, vI p2, vI p3, vI p4, vI p5, vI c5, vI c6, vI c7, vI c8, vI c9, vI c10, vI 0, vR b110, vR b132, vR x155, vR b157, vR b158, .unset, .unset, .unset, .unset, .unset, .unset]) rfl ?_
   refine XS.iload X186.here hx rfl (hb hby at_221) rfl ?_
   refine XS.ifYes X186.here hx rfl (pc0 := 223) (pc' := 300) rfl (hb hby at_223) rfl ((if0 _ _).trans (teq (by decide : (0 : Int32) = (0 : Int32))).1) (by decide) (by decide) ?_
   show SS p e below T186 m 300 #[vI p1, vI p2, vI p3, vI p4, vI p5, vI c5, vI c6, vI c7, vI c8, vI c9, vI c10, vI 0, vR b110, vR b132, vR x155, vR b157, vR b158, .unset, .unset, .unset, .unset, .unset, .unset] [] _
   refine st237 _ ?_
   refine XS.dup X237.here hx rfl (hb hby at_303) rfl rfl ?_
   refine XS.bipush X237.here hx rfl (hb hby at_304) ?_
   show SS p e below T237 m 306 #[vI p1, vI p2, vI p3, vI p4, vI p5, vI c5, vI c6, vI c7, vI c8, vI c9, vI c10, vI 0, vR b110, vR b132, vR x155, vR b157, vR b158, .unset, .unset, .unset, .unset, .unset, .unset] [(.int 10), (.ref b237), (.ref b237)] _
   refine st238 _ ?_
   refine XS.dup X238.here hx rfl (hb hby at_308) rfl rfl ?_
   refine XS.iconst X238.here hx rfl (hb hby at_309) ?_
   refine XS.bipush X238.here hx rfl (hb hby at_310) ?_
   show SS p e below T238 m 312 #[vI p1, vI p2, vI p3, vI p4, vI p5, vI c5, vI c6, vI c7, vI c8, vI c9, vI c10, vI 0, vR b110, vR b132, vR x155, vR b157, vR b158, .unset, .unset, .unset, .unset, .unset, .unset] [(.int 101), (.int 0), (.ref b238), (.ref b238), (.ref b237), (.ref b237)] _
   refine st240 _ ?_
   refine XS.dup X240.here hx rfl (hb hby at_313) rfl rfl ?_
   refine XS.iconst X240.here hx rfl (hb hby at_314) ?_
   refine XS.bipush X240.here hx rfl (hb hby at_315) ?_
   show SS p e below T240 m 317 #[vI p1, vI p2, vI p3, vI p4, vI p5, vI c5, vI c6, vI c7, vI c8, vI c9, vI c10, vI 0, vR b110, vR b132, vR x155, vR b157, vR b158, .unset, .unset, .unset, .unset, .unset, .unset] [(.int 114), (.int 1), (.ref b238), (.ref b238), (.ref b237), (.ref b237)] _
   refine st242 _ ?_
   refine XS.dup X242.here hx rfl (hb hby at_318) rfl rfl ?_
   refine XS.iconst X242.here hx rfl (hb hby at_319) ?_
   refine XS.bipush X242.here hx rfl (hb hby at_320) ?_
   show SS p e below T242 m 322 #[vI p1, vI p2, vI p3, vI p4, vI p5, vI c5, vI c6, vI c7, vI c8, vI c9, vI c10, vI 0, vR b110, vR b132, vR x155, vR b157, vR b158, .unset, .unset, .unset, .unset, .unset, .unset] [(.int 114), (.int 2), (.ref b238), (.ref b238), (.ref b237), (.ref b237)] _
   refine st244 _ ?_
   refine XS.dup X244.here hx rfl (hb hby at_323) rfl rfl ?_
   refine XS.iconst X244.here hx rfl (hb hby at_324) ?_
   refine XS.bipush X244.here hx rfl (hb hby at_325) ?_
   show SS p e below T244 m 327 #[vI p1, vI p2, vI p3, vI p4, vI p5, vI c5, vI c6, vI c7, vI c8, vI c9, vI c10, vI 0, vR b110, vR b132, vR x155, vR b157, vR b158, .unset, .unset, .unset, .unset, .unset, .unset] [(.int 111), (.int 3), (.ref b238), (.ref b238), (.ref b237), (.ref b237)] _
   refine st246 _ ?_
   refine XS.dup X246.here hx rfl (hb hby at_328) rfl rfl ?_
   refine XS.iconst X246.here hx rfl (hb hby at_329) ?_
   refine XS.bipush X246.here hx rfl (hb hby at_330) ?_
   show SS p e below T246 m 332 #[vI p1, vI p2, vI p3, vI p4, vI p5, vI c5, vI c6, vI c7, vI c8, vI c9, vI c10, vI 0, vR b110, vR b132, vR x155, vR b157, vR b158, .unset, .unset, .unset, .unset, .unset, .unset] [(.int 114), (.int 4), (.ref b238), (.ref b238), (.ref b237), (.ref b237)] _
   refine st248 _ ?_
   refine XS.dup X248.here hx rfl (hb hby at_333) rfl rfl ?_
   refine XS.iconst X248.here hx rfl (hb hby at_334) ?_
   refine XS.bipush X248.here hx rfl (hb hby at_335) ?_
   show SS p e below T248 m 337 #[vI p1, vI p2, vI p3, vI p4, vI p5, vI c5, vI c6, vI c7, vI c8, vI c9, vI c10, vI 0, vR b110, vR b132, vR x155, vR b157, vR b158, .unset, .unset, .unset, .unset, .unset, .unset] [(.int 91), (.int 5), (.ref b238), (.ref b238), (.ref b237), (.ref b237)] _
   refine st250 _ ?_
   refine XS.dup X250.here hx rfl (hb hby at_338) rfl rfl ?_
   refine XS.bipush X250.here hx rfl (hb hby at_339) ?_
   refine XS.iload X250.here hx rfl (hb hby at_341) rfl ?_
   show SS p e below T250 m 343 #[vI p1, vI p2, vI p3, vI p4, vI p5, vI c5, vI c6, vI c7, vI c8, vI c9, vI c10, vI 0, vR b110, vR b132, vR x155, vR b157, vR b158, .unset, .unset, .unset, .unset, .unset, .unset] [(.int c9), (.int 6), (.ref b238), (.ref b238), (.ref b237), (.ref b237)] _
   refine st252 _ ?_
   refine XS.dup X252.here hx rfl (hb hby at_344) rfl rfl ?_
   refine XS.bipush X252.here hx rfl (hb hby at_345) ?_
   refine XS.bipush X252.here hx rfl (hb hby at_347) ?_
   show SS p e below T252 m 349 #[vI p1, vI p2, vI p3, vI p4, vI p5, vI c5, vI c6, vI c7, vI c8, vI c9, vI c10, vI 0, vR b110, vR b132, vR x155, vR b157, vR b158, .unset, .unset, .unset, .unset, .unset, .unset] [(.int 93), (.int 7), (.ref b238), (.ref b238), (.ref b237), (.ref b237)] _
   refine st254 _ ?_
   refine XS.dup X254.here hx rfl (hb hby at_350) rfl rfl ?_
   refine XS.bipush X254.here hx rfl (hb hby at_351) ?_
   refine XS.bipush X254.here hx rfl (hb hby at_353) ?_
   show SS p e below T254 m 355 #[vI p1, vI p2, vI p3, vI p4, vI p5, vI c5, vI c6, vI c7, vI c8, vI c9, vI c10, vI 0, vR b110, vR b132, vR x155, vR b157, vR b158, .unset, .unset, .unset, .unset, .unset, .unset] [(.int 58), (.int 8), (.ref b238), (.ref b238), (.ref b237), (.ref b237)] _
   refine st256 _ ?_
   refine XS.dup X256.here hx rfl (hb hby at_356) rfl rfl ?_
   refine XS.bipush X256.here hx rfl (hb hby at_357) ?_
   refine XS.bipush X256.here hx rfl (hb hby at_359) ?_
   show SS p e below T256 m 361 #[vI p1, vI p2, vI p3, vI p4, vI p5, vI c5, vI c6, vI c7, vI c8, vI c9, vI c10, vI 0, vR b110, vR b132, vR x155, vR b157, vR b158, .unset, .unset, .unset, .unset, .unset, .unset] [(.int 32), (.int 9), (.ref b238), (.ref b238), (.ref b237), (.ref b237)] _
   refine st258 _ ?_
   show SS p e below T258 m 362 #[vI p1, vI p2, vI p3, vI p4, vI p5, vI c5, vI c6, vI c7, vI c8, vI c9, vI c10, vI 0, vR b110, vR b132, vR x155, vR b157, vR b158, .unset, .unset, .unset, .unset, .unset, .unset] [(.ref b238), (.ref b237), (.ref b237)] _
   refine st259.trans ?_
   refine XS.astore X259.here hx rfl (hb hby at_365) rfl rfl (l' := #[vI p1, vI p2, vI p3, vI p4, vI p5, vI c5, vI c6, vI c7, vI c8, vI c9, vI c10, vI 0, vR b110, vR b132, vR x155, vR b157, vR b158, vR b237, .unset, .unset, .unset, .unset, .unset]) rfl ?_
   show SS p e below T259 m 367 #[vI p1, vI p2, vI p3, vI p4, vI p5, vI c5, vI c6, vI c7, vI c8, vI c9, vI c10, vI 0, vR b110, vR b132, vR x155, vR b157, vR b158, vR b237, .unset, .unset, .unset, .unset, .unset] [] _
   refine st300 _ ?_
   refine XS.dup X300.here hx rfl (hb hby at_370) rfl rfl ?_
   show SS p e below T300 m 371 #[vI p1, vI p2, vI p3, vI p4, vI p5, vI c5, vI c6, vI c7, vI c8, vI c9, vI c10, vI 0, vR b110, vR b132, vR x155, vR b157, vR b158, vR b237, .unset, .unset, .unset, .unset, .unset] [(.ref b300), (.ref b300)] _
   refine st301.trans ?_
   refine XS.astore X301.here hx rfl (hb hby at_374) rfl rfl (l' := #[vI p1, vI p2, vI p3, vI p4, vI p5, vI c5, vI c6, vI c7, vI c8, vI c9, vI c10, vI 0, vR b110, vR b132, vR x155, vR b157, vR b158, vR b237, vR b300, .unset, .unset, .unset, .unset]) rfl ?_
   refine XS.aload X301.here hx rfl (hb hby at_376) rfl rfl ?_
   show SS p e below T301 m 378 #[vI p1, vI p2, vI p3, vI p4, vI p5, vI c5, vI c6, vI c7, vI c8, vI c9, vI c10, vI 0, vR b110, vR b132, vR x155, vR b157, vR b158, vR b237, vR b300, .unset, .unset, .unset, .unset] [(.ref b300)] _
   refine st304.trans ?_
   refine XS.istore X304.here hx rfl (hb hby at_381) rfl (l' := #[vI p1, vI p2, vI p3, vI p4, vI p5, vI c5, vI c6, vI c7, vI c8, vI c9, vI c10, vI 0, vR b110, vR b132, vR x155, vR b157, vR b158, vR b237, vR b300, vI 1, .unset, .unset, .unset]) rfl ?_
   refine XS.aload X304.here hx rfl (hb hby at_383) rfl rfl ?_
   show SS p e below T304 m 385 #[vI p1, vI p2, vI p3, vI p4, vI p5, vI c5, vI c6, vI c7, vI c8, vI c9, vI c10, vI 0, vR b110, vR b132, vR x155, vR b157, vR b158, vR b237, vR b300, vI 1, .unset, .unset, .unset] [(.ref b300)] _
   refine st306.trans ?_
   refine XS.astore X306.here hx rfl (hb hby at_388) rfl rfl (l' := #[vI p1, vI p2, vI p3, vI p4, vI p5, vI c5, vI c6, vI c7, vI c8, vI c9, vI c10, vI 0, vR b110, vR b132, vR x155, vR b157, vR b158, vR b237, vR b300, vI 1, vR el, .unset, .unset]) rfl ?_
   refine XS.iload X306.here hx rfl (hb hby at_390) rfl ?_
   refine XS.ifNo X306.here hx rfl (hb hby at_392) rfl ((if0 _ _).trans (feq (by decide : ¬ ((1 : Int32) = (0 : Int32)))).1) ?_
   refine XS.aload X306.here hx rfl (hb hby at_395) rfl rfl ?_
   show SS p e below T306 m 397 #[vI p1, vI p2, vI p3, vI p4, vI p5, vI c5, vI c6, vI c7, vI c8, vI c9, vI c10, vI 0, vR b110, vR b132, vR x155, vR b157, vR b158, vR b237, vR b300, vI 1, vR el, .unset, .unset] [(.ref el)] _
   refine st307.trans ?_
   refine XS.ifYes X307.here hx rfl (pc0 := 402) (pc' := 407) rfl (hb hby at_402) rfl ((if0 _ _).trans (teq (by decide : (0 : Int32) = (0 : Int32))).1) (by decide) (by decide) ?_
   refine XS.aload X307.here hx rfl (hb hby at_407) rfl rfl ?_
   refine XS.aload X307.here hx rfl (hb hby at_409) rfl rfl ?_
   refine XS.aload X307.here hx rfl (hb hby at_411) rfl rfl ?_
   show SS p e below T307 m 413 #[vI p1, vI p2, vI p3, vI p4, vI p5, vI c5, vI c6, vI c7, vI c8, vI c9, vI c10, vI 0, vR b110, vR b132, vR x155, vR b157, vR b158, vR b237, vR b300, vI 1, vR el, .unset, .unset] [(.ref b132), (.ref b110), (.ref b300)] _
   refine st326.trans ?_
   refine XS.aload X326.here hx rfl (hb hby at_416) rfl rfl ?_
   show SS p e below T326 m 418 #[vI p1, vI p2, vI p3, vI p4, vI p5, vI c5, vI c6, vI c7, vI c8, vI c9, vI c10, vI 0, vR b110, vR b132, vR x155, vR b157, vR b158, vR b237, vR b300, vI 1, vR el, .unset, .unset] [(.ref b300)] _
   refine st354.trans ?_
   refine XS.istore X354.here hx rfl (hb hby at_421) rfl (l' := #[vI p1, vI p2, vI p3, vI p4, vI p5, vI c5, vI c6, vI c7, vI c8, vI c9, vI c10, vI 0, vR b110, vR b132, vR x155, vR b157, vR b158, vR b237, vR b300, vI 1, vR el, vI 0, .unset]) rfl ?_
   refine XS.iload X354.here hx rfl (hb hby at_423) rfl ?_
   refine XS.ifYes X354.here hx rfl (pc0 := 425) (pc' := 430) rfl (hb hby at_425) rfl ((if0 _ _).trans (teq (by decide : (0 : Int32) = (0 : Int32))).1) (by decide) (by decide) ?_
   refine XS.aload X354.here hx rfl (hb hby at_430) rfl rfl ?_
   refine XS.aload X354.here hx rfl (hb hby at_432) rfl rfl ?_
   refine XS.aload X354.here hx rfl (hb hby at_434) rfl rfl ?_
   show SS p e below T354 m 436 #[vI p1, vI p2, vI p3, vI p4, vI p5, vI c5, vI c6, vI c7, vI c8, vI c9, vI c10, vI 0, vR b110, vR b132, vR x155, vR b157, vR b158, vR b237, vR b300, vI 1, vR el, vI 0, .unset] [(.ref b157), (.ref x155), (.ref b300)] _
   refine st358.trans ?_
   refine XS.aload X358.here hx rfl (hb hby at_439) rfl rfl ?_
   show SS p e below T358 m 441 #[vI p1, vI p2, vI p3, vI p4, vI p5, vI c5, vI c6, vI c7, vI c8, vI c9, vI c10, vI 0, vR b110, vR b132, vR x155, vR b157, vR b158, vR b237, vR b300, vI 1, vR el, vI 0, .unset] [(.ref b300)] _
   refine st382.trans ?_
   refine XS.astore X382.here hx rfl (hb hby at_444) rfl rfl (l' := #[vI p1, vI p2, vI p3, vI p4, vI p5, vI c5, vI c6, vI c7, vI c8, vI c9, vI c10, vI 0, vR b110, vR b132, vR x155, vR b157, vR b158, vR b237, vR b300, vI 1, vR el, vI 0, vR x382]) rfl ?_
   refine XS.aload X382.here hx rfl (hb hby at_446) rfl rfl ?_
   show SS p e below T382 m 448 #[vI p1, vI p2, vI p3, vI p4, vI p5, vI c5, vI c6, vI c7, vI c8, vI c9, vI c10, vI 0, vR b110, vR b132, vR x155, vR b157, vR b158, vR b237, vR b300, vI 1, vR el, vI 0, vR x382] [(.ref x382)] _
   refine st387.trans ?_
   refine XS.iconst X387.here hx rfl (hb hby at_453) ?_
   refine XS.icmpYes X387.here hx rfl (pc0 := 454) (pc' := 459) rfl (hb hby at_454) rfl (teq (by decide : (2 : Int32) = (2 : Int32))).1 (by decide) (by decide) ?_
   refine XS.aload X387.here hx rfl (hb hby at_459) rfl rfl ?_
   refine XS.aload X387.here hx rfl (hb hby at_461) rfl rfl ?_
   refine XS.iconst X387.here hx rfl (hb hby at_463) ?_
   show SS p e below T387 m 464 #[vI p1, vI p2, vI p3, vI p4, vI p5, vI c5, vI c6, vI c7, vI c8, vI c9, vI c10, vI 0, vR b110, vR b132, vR x155, vR b157, vR b158, vR b237, vR b300, vI 1, vR el, vI 0, vR x382] [(.int 0), (.ref x382), (.ref b158)] _
   refine st389.trans ?_
   show SS p e below T389 m 469 #[vI p1, vI p2, vI p3, vI p4, vI p5, vI c5, vI c6, vI c7, vI c8, vI c9, vI c10, vI 0, vR b110, vR b132, vR x155, vR b157, vR b158, vR b237, vR b300, vI 1, vR el, vI 0, vR x382] [(.ref y326), (.ref b158)] _
   refine st390.trans ?_
   refine XS.ifNo X390.here hx rfl (hb hby at_472) rfl ((if0 _ _).trans (feq (by decide : ¬ ((1 : Int32) = (0 : Int32)))).1) ?_
   refine XS.aload X390.here hx rfl (hb hby at_475) rfl rfl ?_
   refine XS.aload X390.here hx rfl (hb hby at_477) rfl rfl ?_
   refine XS.iconst X390.here hx rfl (hb hby at_479) ?_
   show SS p e below T390 m 480 #[vI p1, vI p2, vI p3, vI p4, vI p5, vI c5, vI c6, vI c7, vI c8, vI c9, vI c10, vI 0, vR b110, vR b132, vR x155, vR b157, vR b158, vR b237, vR b300, vI 1, vR el, vI 0, vR x382] [(.int 1), (.ref x382), (.ref b237)] _
   refine st406.trans ?_
   show SS p e below T406 m 485 #[vI p1, vI p2, vI p3, vI p4, vI p5, vI c5, vI c6, vI c7, vI c8, vI c9, vI c10, vI 0, vR b110, vR b132, vR x155, vR b157, vR b158, vR b237, vR b300, vI 1, vR el, vI 0, vR x382] [(.ref y358), (.ref b237)] _
   refine st407.trans ?_
   refine XS.ifNo X407.here hx rfl (hb hby at_488) rfl ((if0 _ _).trans (feq (by decide : ¬ ((1 : Int32) = (0 : Int32)))).1) ?_
   refine XS.aload X407.here hx rfl (hb hby at_491) rfl rfl ?_
   show SS p e below T407 m 493 #[vI p1, vI p2, vI p3, vI p4, vI p5, vI c5, vI c6, vI c7, vI c8, vI c9, vI c10, vI 0, vR b110, vR b132, vR x155, vR b157, vR b158, vR b237, vR b300, vI 1, vR el, vI 0, vR x382] [(.ref b300)] _
   refine st418.trans ?_
   refine XS.ifNo X418.here hx rfl (hb hby at_496) rfl ((if0 _ _).trans (teq (by decide : (0 : Int32) = (0 : Int32))).2) ?_
   refine XS.iconst X418.here hx rfl (hb hby at_499) ?_
   refine XS.goto X418.here hx rfl (pc0 := 500) (pc' := 504) rfl (hb hby at_500) (by decide) (by decide) ?_
   show SS p e below T418 m 504 #[vI p1, vI p2, vI p3, vI p4, vI p5, vI c5, vI c6, vI c7, vI c8, vI c9, vI c10, vI 0, vR b110, vR b132, vR x155, vR b157, vR b158, vR b237, vR b300, vI 1, vR el, vI 0, vR x382] [(.int 1)] _
   exact retN X418 hx (t := .boolean) Bd.returns (by simp) (hb hby at_504) hr
  ·show Q_rm0 Z p1 p2 p3 p4 p5 cs0 dd el ea em mr kD kE h0 n0 _ T418.heap _
   rw [H418]
   exact ⟨rfl, N418⟩
 ·skip
  obtain ⟨T423, h423, X423, e423, E423, A423, D423, -, st423⟩ := newO X0 hx hZ hown (tw hw 0 rfl) (tw hw 1 rfl) (tw hw 2 rfl) e0 (g := (mkF m 68 #[vI p1, vI p2, vI p3, vI p4, vI p5, vI c5, vI c6, vI c7, vI c8, vI c9, vI c10, vI 1, .unset, .unset, .unset, .unset, .unset, .unset, .unset, .unset, .unset, .unset, .unset] [])) rfl (hb hby at_68) (by decide) (by decide)
  obtain ⟨b423, g423⟩ : ∃ z, z = h0.size := ⟨_, rfl⟩
  rw [← g423] at A423 D423 st423
  have lt423 : @LT.lt Nat _ b423 h423.size := A423.lt
  have K423 : Keep h0 h423 [] := (Keep.refl _ _).ext E423
  have cR1_K423 := CR0.trans (CHr.keep K423 sf0 CR0.1)
  have sz1_K423 := K423.1
  have F423_coder : Fld Z h423 b423 "java/lang/String" "coder" "B" (.int 0) := D423 (Or.inr (tw hw 27 rfl)) (ty := .byte) (by decide)
  have F423_value : Fld Z h423 b423 "java/lang/String" "value" "[B" .null := D423 (Or.inr (tw hw 29 rfl)) (ty := (.array .byte)) (by decide)
  obtain ⟨T424, h424, k424, X424, e424, E424, A424, st424⟩ := newP X423 hx hZ (tw hw 3 rfl) e423 (g := (mkF m 73 #[vI p1, vI p2, vI p3, vI p4, vI p5, vI c5, vI c6, vI c7, vI c8, vI c9, vI c10, vI 1, .unset, .unset, .unset, .unset, .unset, .unset, .unset, .unset, .unset, .unset, .unset] [(.int 2), (.ref b423), (.ref b423)])) rfl (hb hby at_73) rfl (by decide) (cap := 2) (by decide) (by decide) (by decide) (by decide)
  obtain ⟨b424, g424⟩ : ∃ z, z = h423.size := ⟨_, rfl⟩
  rw [← g424] at A424 st424
  have V424 : Arv Z h424 b424 k424 .char (2 : Int32) [(.int 0), (.int 0)] (.int 0) := (Arv.new A424 (by decide)).pad (pad_rep [] (.int 0) 2)
  have lt424 : @LT.lt Nat _ b424 h424.size := V424.lt
  have K424 : Keep h423 h424 [] := (Keep.refl _ _).ext E424
  have cR2_K424 := cR1_K423.trans (CHr.keep K424 sf0 cR1_K423.1)
  have sz2_K424 := K424.1
  obtain ⟨cl425, Ar425, q425, S425, Nn425, H425, G425⟩ := id V424
  obtain ⟨T426, h426, X426, e426, W426, st426⟩ := stC X424 hx hZ e424 Ar425 (j := (0 : Int32)) (inb_of S425 ⟨by decide, by decide⟩) (g := (mkF m 79 #[vI p1, vI p2, vI p3, vI p4, vI p5, vI c5, vI c6, vI c7, vI c8, vI c9, vI c10, vI 1, .unset, .unset, .unset, .unset, .unset, .unset, .unset, .unset, .unset, .unset, .unset] [(.int c5), (.int 0), (.ref b424), (.ref b424), (.ref b423), (.ref b423)])) rfl rfl (hb hby at_79)
  rw [own_nc (own_c255 rc5)] at W426
  have V426 : Arv Z h426 b424 k424 .char (2 : Int32) [(.int c5), (.int 0)] (.int 0) := Arv.set Ar425 q425 S425 Nn425 H425 G425 (own_fitc (own_c255 rc5)) W426 0 rfl (Nat.le_of_ble_eq_true rfl)
  have K426 := Keep.of_wr W426
  have N426 := Fr.snoc X426 N0 (by omega : @LE.le Nat _ n0 b424)
  have hs3_K426 : ∀ zz ∈ ([b424] : List Addr), Safe Z EL1 s.vm h424 zz := sfS (Safe.arv hZ.alike V424 (by decide)) (sf0)
  have cR3_K426 := cR2_K424.trans (CHr.keep K426 hs3_K426 cR2_K424.1)
  have sz3_K426 := K426.1
  obtain ⟨cl427, Ar427, q427, S427, Nn427, H427, G427⟩ := id V426
  obtain ⟨T428, h428, X428, e428, W428, st428⟩ := stC X426 hx hZ e426 Ar427 (j := (1 : Int32)) (inb_of S427 ⟨by decide, by decide⟩) (g := (mkF m 84 #[vI p1, vI p2, vI p3, vI p4, vI p5, vI c5, vI c6, vI c7, vI c8, vI c9, vI c10, vI 1, .unset, .unset, .unset, .unset, .unset, .unset, .unset, .unset, .unset, .unset, .unset] [(.int c6), (.int 1), (.ref b424), (.ref b424), (.ref b423), (.ref b423)])) rfl rfl (hb hby at_84)
  rw [own_nc (own_c255 rc6)] at W428
  have V428 : Arv Z h428 b424 k424 .char (2 : Int32) [(.int c5), (.int c6)] (.int 0) := Arv.set Ar427 q427 S427 Nn427 H427 G427 (own_fitc (own_c255 rc6)) W428 1 rfl (Nat.le_of_ble_eq_true rfl)
  have K428 := Keep.of_wr W428
  have N428 := Fr.snoc X428 N426 (by omega : @LE.le Nat _ n0 b424)
  have hs4_K428 : ∀ zz ∈ ([b424] : List Addr), Safe Z EL1 s.vm h426 zz := sfS (Safe.arv hZ.alike V426 (by decide)) (sf0)
  have cR4_K428 := cR3_K426.trans (CHr.keep K428 hs4_K428 cR3_K426.1)
  have sz4_K428 := K428.1
  have hL430 : ∀ c ∈ ([c5, c6] : List Int32), ¬ c < 0 ∧ ¬ (255 : Int32) < c := by intro c hc; simp only [List.mem_cons, List.not_mem_nil, or_false] at hc; rcases hc with rfl | rfl <;> first | decide | exact rc5 | exact rc6
  have KD431 : Keep h423 h426 [] := ((Keep.refl _ _).trans K424 (all0)).trans K426 (allS (Or.inr (by omega)) (all0))
  have KD432 : Keep h423 h428 [] := ((Keep.refl _ _).trans KD431 (all0)).trans K428 (allS (Or.inr (by omega)) (all0))
  have C433 := A423.keep KD432
  have C434 := F423_value.keep KD432 nin0
  have C435 := F423_coder.keep KD432 nin0
  have O436 : Old Z n0 h423 := O0.keep K423 all0
  have O437 : Old Z n0 h424 := O436.keep K424 all0
  have O438 : Old Z n0 h426 := O437.keep K426 (allS (by omega) (all0))
  have O439 : Old Z n0 h428 := O438.keep K428 (allS (by omega) (all0))
  obtain ⟨_, _, ⟨T429, L429, k429, n429⟩, -, X429, ⟨Lc429, hQ429, l429, y429, z429⟩, st429⟩ := X428.specialBack hx (y := mN56) rfl hown (mvT hZ (tw hw 4 rfl)) (mvT hZ (tw hw 5 rfl)) (mvT hZ (tw hw 6 rfl)) (by decide) (StrChars.Road.backV (W := 1) hZ hws (kI := 4) (tw hw 1 rfl) (cs := ([c5, c6] : List Int32)) (bs := ([c5, c6] : List Int32).map (fun c => c.toInt8.toInt32)) (n := 2) (by omega : @LE.le Nat _ n0 b423) (by omega) C433 C434 C435 V428 (Sta.ext O439.2 S_CS) c_CS rfl rfl (by decide) (by decide) hL430 rfl (by decide) (by decide)) (g := (mkF m 85 #[vI p1, vI p2, vI p3, vI p4, vI p5, vI c5, vI c6, vI c7, vI c8, vI c9, vI c10, vI 1, .unset, .unset, .unset, .unset, .unset, .unset, .unset, .unset, .unset, .unset, .unset] [(.ref b424), (.ref b423), (.ref b423)])) rfl (by rw [hml]; rfl) (Steps.refl _) (a := b423) (argsL := [(.ref b424)]) (rest := [(.ref b423)]) (lenOf pd_0 rfl) rfl (wL _) (hb hby at_85) (fun _ _ => ⟨rfl, e428, (by decide : 2 + 1 ≤ _), (by decide : 6 + 2 ≤ _)⟩)
  dsimp only [Pt.U, Pt.locs, Pt.cells, Pt.slots] at X429 l429 y429 z429 st429 hQ429
  rw [l429] at X429
  subst y429 z429
  obtain ⟨rfl, N429q, K429, E429, C429, t429, kb429, ge429, gh429, tx429, Vf429, Av429⟩ := hQ429
  have lt429 : @LT.lt Nat _ t429 T429.heap.size := Av429.lt
  have Sf440 : Safe Z EL1 s.vm h0 b423 := Safe.new (by omega)
  have Sf441 := Safe.keep K423 sf0 CR0.1 Sf440
  have Sf442 := Safe.keep K424 sf0 cR1_K423.1 Sf441
  have Sf443 := Safe.keep K426 hs3_K426 cR2_K424.1 Sf442
  have Sf444 := Safe.keep K428 hs4_K428 cR3_K426.1 Sf443
  have hs5_K429 : ∀ zz ∈ ([b423] : List Addr), Safe Z EL1 s.vm h428 zz := sfS Sf444 (sf0)
  have cR5_K429 := cR4_K428.trans (CHr.keep K429 hs5_K429 cR4_K428.1)
  have sz5_K429 := K429.1
  have gt429_ : @Ne Nat t429 b423 := tx429
  have N429 := Fr.app N428 N429q
  obtain ⟨T445, h445, X445, e445, E445, A445, D445, -, st445⟩ := newO X429 hx hZ hown (tw hw 0 rfl) (tw hw 1 rfl) (tw hw 2 rfl) rfl (g := (mkF m 90 #[vI p1, vI p2, vI p3, vI p4, vI p5, vI c5, vI c6, vI c7, vI c8, vI c9, vI c10, vI 1, vR b423, .unset, .unset, .unset, .unset, .unset, .unset, .unset, .unset, .unset, .unset] [])) rfl (hb hby at_90) (by decide) (by decide)
  obtain ⟨b445, g445⟩ : ∃ z, z = T429.heap.size := ⟨_, rfl⟩
  rw [← g445] at A445 D445 st445
  have lt445 : @LT.lt Nat _ b445 h445.size := A445.lt
  have K445 : Keep T429.heap h445 [] := (Keep.refl _ _).ext E445
  have cR6_K445 := cR5_K429.trans (CHr.keep K445 sf0 cR5_K429.1)
  have sz6_K445 := K445.1
  have F445_coder : Fld Z h445 b445 "java/lang/String" "coder" "B" (.int 0) := D445 (Or.inr (tw hw 27 rfl)) (ty := .byte) (by decide)
  have F445_value : Fld Z h445 b445 "java/lang/String" "value" "[B" .null := D445 (Or.inr (tw hw 29 rfl)) (ty := (.array .byte)) (by decide)
  obtain ⟨T446, h446, k446, X446, e446, E446, A446, st446⟩ := newP X445 hx hZ (tw hw 3 rfl) e445 (g := (mkF m 95 #[vI p1, vI p2, vI p3, vI p4, vI p5, vI c5, vI c6, vI c7, vI c8, vI c9, vI c10, vI 1, vR b423, .unset, .unset, .unset, .unset, .unset, .unset, .unset, .unset, .unset, .unset] [(.int 2), (.ref b445), (.ref b445)])) rfl (hb hby at_95) rfl (by decide) (cap := 2) (by decide) (by decide) (by decide) (by decide)
  obtain ⟨b446, g446⟩ : ∃ z, z = h445.size := ⟨_, rfl⟩
  rw [← g446] at A446 st446
  have V446 : Arv Z h446 b446 k446 .char (2 : Int32) [(.int 0), (.int 0)] (.int 0) := (Arv.new A446 (by decide)).pad (pad_rep [] (.int 0) 2)
  have lt446 : @LT.lt Nat _ b446 h446.size := V446.lt
  have K446 : Keep h445 h446 [] := (Keep.refl _ _).ext E446
  have cR7_K446 := cR6_K445.trans (CHr.keep K446 sf0 cR6_K445.1)
  have sz7_K446 := K446.1
  obtain ⟨cl447, Ar447, q447, S447, Nn447, H447, G447⟩ := id V446
  obtain ⟨T448, h448, X448, e448, W448, st448⟩ := stC X446 hx hZ e446 Ar447 (j := (0 : Int32)) (inb_of S447 ⟨by decide, by decide⟩) (g := (mkF m 101 #[vI p1, vI p2, vI p3, vI p4, vI p5, vI c5, vI c6, vI c7, vI c8, vI c9, vI c10, vI 1, vR b423, .unset, .unset, .unset, .unset, .unset, .unset, .unset, .unset, .unset, .unset] [(.int c7), (.int 0), (.ref b446), (.ref b446), (.ref b445), (.ref b445)])) rfl rfl (hb hby at_101)
  rw [own_nc (own_c255 rc7)] at W448
  have V448 : Arv Z h448 b446 k446 .char (2 : Int32) [(.int c7), (.int 0)] (.int 0) := Arv.set Ar447 q447 S447 Nn447 H447 G447 (own_fitc (own_c255 rc7)) W448 0 rfl (Nat.le_of_ble_eq_true rfl)
  have K448 := Keep.of_wr W448
  have N448 := Fr.snoc X448 N429 (by omega : @LE.le Nat _ n0 b446)
  have hs8_K448 : ∀ zz ∈ ([b446] : List Addr), Safe Z EL1 s.vm h446 zz := sfS (Safe.arv hZ.alike V446 (by decide)) (sf0)
  have cR8_K448 := cR7_K446.trans (CHr.keep K448 hs8_K448 cR7_K446.1)
  have sz8_K448 := K448.1
  obtain ⟨cl449, Ar449, q449, S449, Nn449, H449, G449⟩ := id V448
  obtain ⟨T450, h450, X450, e450, W450, st450⟩ := stC X448 hx hZ e448 Ar449 (j := (1 : Int32)) (inb_of S449 ⟨by decide, by decide⟩) (g := (mkF m 106 #[vI p1, vI p2, vI p3, vI p4, vI p5, vI c5, vI c6, vI c7, vI c8, vI c9, vI c10, vI 1, vR b423, .unset, .unset, .unset, .unset, .unset, .unset, .unset, .unset, .unset, .unset] [(.int c8), (.int 1), (.ref b446), (.ref b446), (.ref b445), (.ref b445)])) rfl rfl (hb hby at_106)
  rw [own_nc (own_c255 rc8)] at W450
  have V450 : Arv Z h450 b446 k446 .char (2 : Int32) [(.int c7), (.int c8)] (.int 0) := Arv.set Ar449 q449 S449 Nn449 H449 G449 (own_fitc (own_c255 rc8)) W450 1 rfl (Nat.le_of_ble_eq_true rfl)
  have K450 := Keep.of_wr W450
  have N450 := Fr.snoc X450 N448 (by omega : @LE.le Nat _ n0 b446)
  have hs9_K450 : ∀ zz ∈ ([b446] : List Addr), Safe Z EL1 s.vm h448 zz := sfS (Safe.arv hZ.alike V448 (by decide)) (sf0)
  have cR9_K450 := cR8_K448.trans (CHr.keep K450 hs9_K450 cR8_K448.1)
  have sz9_K450 := K450.1
  have hL452 : ∀ c ∈ ([c7, c8] : List Int32), ¬ c < 0 ∧ ¬ (255 : Int32) < c := by intro c hc; simp only [List.mem_cons, List.not_mem_nil, or_false] at hc; rcases hc with rfl | rfl <;> first | decide | exact rc7 | exact rc8
  have KD453 : Keep h445 h448 [] := ((Keep.refl _ _).trans K446 (all0)).trans K448 (allS (Or.inr (by omega)) (all0))
  have KD454 : Keep h445 h450 [] := ((Keep.refl _ _).trans KD453 (all0)).trans K450 (allS (Or.inr (by omega)) (all0))
  have C455 := A445.keep KD454
  have C456 := F445_value.keep KD454 nin0
  have C457 := F445_coder.keep KD454 nin0
  have O458 : Old Z n0 T429.heap := O439.keep K429 (allS (by omega) (all0))
  have O459 : Old Z n0 h445 := O458.keep K445 all0
  have O460 : Old Z n0 h446 := O459.keep K446 all0
  have O461 : Old Z n0 h448 := O460.keep K448 (allS (by omega) (all0))
  have O462 : Old Z n0 h450 := O461.keep K450 (allS (by omega) (all0))
  obtain ⟨_, _, ⟨T451, L451, k451, n451⟩, -, X451, ⟨Lc451, hQ451, l451, y451, z451⟩, st451⟩ := X450.specialBack hx (y := mN56) rfl hown (mvT hZ (tw hw 4 rfl)) (mvT hZ (tw hw 5 rfl)) (mvT hZ (tw hw 6 rfl)) (by decide) (StrChars.Road.backV (W := 1) hZ hws (kI := 4) (tw hw 1 rfl) (cs := ([c7, c8] : List Int32)) (bs := ([c7, c8] : List Int32).map (fun c => c.toInt8.toInt32)) (n := 2) (by omega : @LE.le Nat _ n0 b445) (by omega) C455 C456 C457 V450 (Sta.ext O462.2 S_CS) c_CS rfl rfl (by decide) (by decide) hL452 rfl (by decide) (by decide)) (g := (mkF m 107 #[vI p1, vI p2, vI p3, vI p4, vI p5, vI c5, vI c6, vI c7, vI c8, vI c9, vI c10, vI 1, vR b423, .unset, .unset, .unset, .unset, .unset, .unset, .unset, .unset, .unset, .unset] [(.ref b446), (.ref b445), (.ref b445)])) rfl (by rw [hml]; rfl) (Steps.refl _) (a := b445) (argsL := [(.ref b446)]) (rest := [(.ref b445)]) (lenOf pd_0 rfl) rfl (wL _) (hb hby at_107) (fun _ _ => ⟨rfl, e450, (by decide : 5 + 1 ≤ _), (by decide : 14 + 2 ≤ _)⟩)
  dsimp only [Pt.U, Pt.locs, Pt.cells, Pt.slots] at X451 l451 y451 z451 st451 hQ451
  rw [l451] at X451
  subst y451 z451
  obtain ⟨rfl, N451q, K451, E451, C451, t451, kb451, ge451, gh451, tx451, Vf451, Av451⟩ := hQ451
  have lt451 : @LT.lt Nat _ t451 T451.heap.size := Av451.lt
  have Sf463 : Safe Z EL1 s.vm T429.heap b445 := Safe.new (by omega)
  have Sf464 := Safe.keep K445 sf0 cR5_K429.1 Sf463
  have Sf465 := Safe.keep K446 sf0 cR6_K445.1 Sf464
  have Sf466 := Safe.keep K448 hs8_K448 cR7_K446.1 Sf465
  have Sf467 := Safe.keep K450 hs9_K450 cR8_K448.1 Sf466
  have hs10_K451 : ∀ zz ∈ ([b445] : List Addr), Safe Z EL1 s.vm h450 zz := sfS Sf467 (sf0)
  have cR10_K451 := cR9_K450.trans (CHr.keep K451 hs10_K451 cR9_K450.1)
  have sz10_K451 := K451.1
  have gt451_ : @Ne Nat t451 b445 := tx451
  have N451 := Fr.app N450 N451q
  have O469 : Old Z n0 T451.heap := O462.keep K451 (allS (by omega) (all0))
  obtain ⟨_, _, ⟨T468, L468, k468, n468⟩, -, X468, ⟨Lc468, hQ468, l468, y468, z468⟩, st468⟩ := Jvm.LawKit.callS X451 hx (y := mN55) hown (mvT hZ (tw hw 30 rfl)) (mvT hZ (tw hw 31 rfl)) (mvT hZ (tw hw 2 rfl)) (mvT hZ (tw hw 32 rfl)) (by decide) (backOf (W := 0) (rm7 l Z a0 hw [] c9 cs0 T451.heap n0 O469 S_CS c_CS rc9.2) hZ (tw hw 32 rfl) (tw hw 2 rfl) (by decide) (by decide)) (g := (mkF m 114 #[vI p1, vI p2, vI p3, vI p4, vI p5, vI c5, vI c6, vI c7, vI c8, vI c9, vI c10, vI 1, vR b423, vR b445, .unset, .unset, .unset, .unset, .unset, .unset, .unset, .unset, .unset] [(.int c9)])) rfl (by rw [hml]; rfl) (argsL := [(.int c9)]) (rest := []) (lenOf pd_6 rfl) rfl (wL _) (hb hby at_114) (fun _ _ => ⟨rfl, rfl, (by decide : 6 + 2 ≤ _), (by decide : 16 + 5 ≤ _)⟩)
  dsimp only [Pt.U, Pt.locs, Pt.cells, Pt.slots] at X468 l468 y468 z468 st468 hQ468
  rw [l468] at X468
  subst y468 z468
  obtain ⟨x468, t468, kb468, rfl, N468q, K468, gx468, gt468, tx468, E468, C468, F468, V468⟩ := hQ468
  have ltx468 : @LT.lt Nat _ x468 T468.heap.size := E468.lt
  have ltt468 : @LT.lt Nat _ t468 T468.heap.size := V468.lt
  have cR11_K468 := cR10_K451.trans (CHr.keep K468 sf0 cR10_K451.1)
  have sz11_K468 := K468.1
  have N468 := Fr.app N451 N468q
  have O471 : Old Z n0 T468.heap := O469.keep K468 all0
  obtain ⟨_, _, ⟨T470, L470, k470, n470⟩, -, X470, ⟨Lc470, hQ470, l470, y470, z470⟩, st470⟩ := Jvm.LawKit.callS X468 hx (y := mN55) hown (mvT hZ (tw hw 30 rfl)) (mvT hZ (tw hw 31 rfl)) (mvT hZ (tw hw 2 rfl)) (mvT hZ (tw hw 32 rfl)) (by decide) (backOf (W := 0) (rm7 l Z a0 hw [] c10 cs0 T468.heap n0 O471 S_CS c_CS rc10.2) hZ (tw hw 32 rfl) (tw hw 2 rfl) (by decide) (by decide)) (g := (mkF m 126 #[vI p1, vI p2, vI p3, vI p4, vI p5, vI c5, vI c6, vI c7, vI c8, vI c9, vI c10, vI 1, vR b423, vR b445, vR x468, .unset, .unset, .unset, .unset, .unset, .unset, .unset, .unset] [(.int c10)])) rfl (by rw [hml]; rfl) (argsL := [(.int c10)]) (rest := []) (lenOf pd_6 rfl) rfl (wL _) (hb hby at_126) (fun _ _ => ⟨rfl, rfl, (by decide : 8 + 2 ≤ _), (by decide : 21 + 5 ≤ _)⟩)
  dsimp only [Pt.U, Pt.locs, Pt.cells, Pt.slots] at X470 l470 y470 z470 st470 hQ470
  rw [l470] at X470
  subst y470 z470
  obtain ⟨x470, t470, kb470, rfl, N470q, K470, gx470, gt470, tx470, E470, C470, F470, V470⟩ := hQ470
  have ltx470 : @LT.lt Nat _ x470 T470.heap.size := E470.lt
  have ltt470 : @LT.lt Nat _ t470 T470.heap.size := V470.lt
  have cR12_K470 := cR11_K468.trans (CHr.keep K470 sf0 cR11_K468.1)
  have sz12_K470 := K470.1
  have N470 := Fr.app N468 N470q
  obtain ⟨T472, h472, X472, e472, E472, A472, D472, -, st472⟩ := newO X470 hx hZ hown (tw hw 0 rfl) (tw hw 1 rfl) (tw hw 2 rfl) rfl (g := (mkF m 136 #[vI p1, vI p2, vI p3, vI p4, vI p5, vI c5, vI c6, vI c7, vI c8, vI c9, vI c10, vI 1, vR b423, vR b445, vR x468, vR x470, .unset, .unset, .unset, .unset, .unset, .unset, .unset] [])) rfl (hb hby at_136) (by decide) (by decide)
  obtain ⟨b472, g472⟩ : ∃ z, z = T470.heap.size := ⟨_, rfl⟩
  rw [← g472] at A472 D472 st472
  have lt472 : @LT.lt Nat _ b472 h472.size := A472.lt
  have K472 : Keep T470.heap h472 [] := (Keep.refl _ _).ext E472
  have cR13_K472 := cR12_K470.trans (CHr.keep K472 sf0 cR12_K470.1)
  have sz13_K472 := K472.1
  have F472_coder : Fld Z h472 b472 "java/lang/String" "coder" "B" (.int 0) := D472 (Or.inr (tw hw 27 rfl)) (ty := .byte) (by decide)
  have F472_value : Fld Z h472 b472 "java/lang/String" "value" "[B" .null := D472 (Or.inr (tw hw 29 rfl)) (ty := (.array .byte)) (by decide)
  obtain ⟨T473, h473, k473, X473, e473, E473, A473, st473⟩ := newP X472 hx hZ (tw hw 3 rfl) e472 (g := (mkF m 142 #[vI p1, vI p2, vI p3, vI p4, vI p5, vI c5, vI c6, vI c7, vI c8, vI c9, vI c10, vI 1, vR b423, vR b445, vR x468, vR x470, .unset, .unset, .unset, .unset, .unset, .unset, .unset] [(.int 13), (.ref b472), (.ref b472)])) rfl (hb hby at_142) rfl (by decide) (cap := 13) (by decide) (by decide) (by decide) (by decide)
  obtain ⟨b473, g473⟩ : ∃ z, z = h472.size := ⟨_, rfl⟩
  rw [← g473] at A473 st473
  have V473 : Arv Z h473 b473 k473 .char (13 : Int32) [(.int 0), (.int 0), (.int 0), (.int 0), (.int 0), (.int 0), (.int 0), (.int 0), (.int 0), (.int 0), (.int 0), (.int 0), (.int 0)] (.int 0) := (Arv.new A473 (by decide)).pad (pad_rep [] (.int 0) 13)
  have lt473 : @LT.lt Nat _ b473 h473.size := V473.lt
  have K473 : Keep h472 h473 [] := (Keep.refl _ _).ext E473
  have cR14_K473 := cR13_K472.trans (CHr.keep K473 sf0 cR13_K472.1)
  have sz14_K473 := K473.1
  obtain ⟨cl474, Ar474, q474, S474, Nn474, H474, G474⟩ := id V473
  obtain ⟨T475, h475, X475, e475, W475, st475⟩ := stC X473 hx hZ e473 Ar474 (j := (0 : Int32)) (inb_of S474 ⟨by decide, by decide⟩) (g := (mkF m 148 #[vI p1, vI p2, vI p3, vI p4, vI p5, vI c5, vI c6, vI c7, vI c8, vI c9, vI c10, vI 1, vR b423, vR b445, vR x468, vR x470, .unset, .unset, .unset, .unset, .unset, .unset, .unset] [(.int 101), (.int 0), (.ref b473), (.ref b473), (.ref b472), (.ref b472)])) rfl rfl (hb hby at_148)
  rw [own_nc (show ¬ (101 : Int32) < 0 ∧ ¬ (65535 : Int32) < (101 : Int32) by decide)] at W475
  have V475 : Arv Z h475 b473 k473 .char (13 : Int32) [(.int 101), (.int 0), (.int 0), (.int 0), (.int 0), (.int 0), (.int 0), (.int 0), (.int 0), (.int 0), (.int 0), (.int 0), (.int 0)] (.int 0) := Arv.set Ar474 q474 S474 Nn474 H474 G474 (own_fitc (show ¬ (101 : Int32) < 0 ∧ ¬ (65535 : Int32) < (101 : Int32) by decide)) W475 0 rfl (Nat.le_of_ble_eq_true rfl)
  have K475 := Keep.of_wr W475
  have N475 := Fr.snoc X475 N470 (by omega : @LE.le Nat _ n0 b473)
  have hs15_K475 : ∀ zz ∈ ([b473] : List Addr), Safe Z EL1 s.vm h473 zz := sfS (Safe.arv hZ.alike V473 (by decide)) (sf0)
  have cR15_K475 := cR14_K473.trans (CHr.keep K475 hs15_K475 cR14_K473.1)
  have sz15_K475 := K475.1
  obtain ⟨cl476, Ar476, q476, S476, Nn476, H476, G476⟩ := id V475
  obtain ⟨T477, h477, X477, e477, W477, st477⟩ := stC X475 hx hZ e475 Ar476 (j := (1 : Int32)) (inb_of S476 ⟨by decide, by decide⟩) (g := (mkF m 153 #[vI p1, vI p2, vI p3, vI p4, vI p5, vI c5, vI c6, vI c7, vI c8, vI c9, vI c10, vI 1, vR b423, vR b445, vR x468, vR x470, .unset, .unset, .unset, .unset, .unset, .unset, .unset] [(.int 114), (.int 1), (.ref b473), (.ref b473), (.ref b472), (.ref b472)])) rfl rfl (hb hby at_153)
  rw [own_nc (show ¬ (114 : Int32) < 0 ∧ ¬ (65535 : Int32) < (114 : Int32) by decide)] at W477
  have V477 : Arv Z h477 b473 k473 .char (13 : Int32) [(.int 101), (.int 114), (.int 0), (.int 0), (.int 0), (.int 0), (.int 0), (.int 0), (.int 0), (.int 0), (.int 0), (.int 0), (.int 0)] (.int 0) := Arv.set Ar476 q476 S476 Nn476 H476 G476 (own_fitc (show ¬ (114 : Int32) < 0 ∧ ¬ (65535 : Int32) < (114 : Int32) by decide)) W477 1 rfl (Nat.le_of_ble_eq_true rfl)
  have K477 := Keep.of_wr W477
  have N477 := Fr.snoc X477 N475 (by omega : @LE.le Nat _ n0 b473)
  have hs16_K477 : ∀ zz ∈ ([b473] : List Addr), Safe Z EL1 s.vm h475 zz := sfS (Safe.arv hZ.alike V475 (by decide)) (sf0)
  have cR16_K477 := cR15_K475.trans (CHr.keep K477 hs16_K477 cR15_K475.1)
  have sz16_K477 := K477.1
  obtain ⟨cl478, Ar478, q478, S478, Nn478, H478, G478⟩ := id V477
  obtain ⟨T479, h479, X479, e479, W479, st479⟩ := stC X477 hx hZ e477 Ar478 (j := (2 : Int32)) (inb_of S478 ⟨by decide, by decide⟩) (g := (mkF m 158 #[vI p1, vI p2, vI p3, vI p4, vI p5, vI c5, vI c6, vI c7, vI c8, vI c9, vI c10, vI 1, vR b423, vR b445, vR x468, vR x470, .unset, .unset, .unset, .unset, .unset, .unset, .unset] [(.int 114), (.int 2), (.ref b473), (.ref b473), (.ref b472), (.ref b472)])) rfl rfl (hb hby at_158)
  rw [own_nc (show ¬ (114 : Int32) < 0 ∧ ¬ (65535 : Int32) < (114 : Int32) by decide)] at W479
  have V479 : Arv Z h479 b473 k473 .char (13 : Int32) [(.int 101), (.int 114), (.int 114), (.int 0), (.int 0), (.int 0), (.int 0), (.int 0), (.int 0), (.int 0), (.int 0), (.int 0), (.int 0)] (.int 0) := Arv.set Ar478 q478 S478 Nn478 H478 G478 (own_fitc (show ¬ (114 : Int32) < 0 ∧ ¬ (65535 : Int32) < (114 : Int32) by decide)) W479 2 rfl (Nat.le_of_ble_eq_true rfl)
  have K479 := Keep.of_wr W479
  have N479 := Fr.snoc X479 N477 (by omega : @LE.le Nat _ n0 b473)
  have hs17_K479 : ∀ zz ∈ ([b473] : List Addr), Safe Z EL1 s.vm h477 zz := sfS (Safe.arv hZ.alike V477 (by decide)) (sf0)
  have cR17_K479 := cR16_K477.trans (CHr.keep K479 hs17_K479 cR16_K477.1)
  have sz17_K479 := K479.1
  obtain ⟨cl480, Ar480, q480, S480, Nn480, H480, G480⟩ := id V479
  obtain ⟨T481, h481, X481, e481, W481, st481⟩ := stC X479 hx hZ e479 Ar480 (j := (3 : Int32)) (inb_of S480 ⟨by decide, by decide⟩) (g := (mkF m 163 #[vI p1, vI p2, vI p3, vI p4, vI p5, vI c5, vI c6, vI c7, vI c8, vI c9, vI c10, vI 1, vR b423, vR b445, vR x468, vR x470, .unset, .unset, .unset, .unset, .unset, .unset, .unset] [(.int 111), (.int 3), (.ref b473), (.ref b473), (.ref b472), (.ref b472)])) rfl rfl (hb hby at_163)
  rw [own_nc (show ¬ (111 : Int32) < 0 ∧ ¬ (65535 : Int32) < (111 : Int32) by decide)] at W481
  have V481 : Arv Z h481 b473 k473 .char (13 : Int32) [(.int 101), (.int 114), (.int 114), (.int 111), (.int 0), (.int 0), (.int 0), (.int 0), (.int 0), (.int 0), (.int 0), (.int 0), (.int 0)] (.int 0) := Arv.set Ar480 q480 S480 Nn480 H480 G480 (own_fitc (show ¬ (111 : Int32) < 0 ∧ ¬ (65535 : Int32) < (111 : Int32) by decide)) W481 3 rfl (Nat.le_of_ble_eq_true rfl)
  have K481 := Keep.of_wr W481
  have N481 := Fr.snoc X481 N479 (by omega : @LE.le Nat _ n0 b473)
  have hs18_K481 : ∀ zz ∈ ([b473] : List Addr), Safe Z EL1 s.vm h479 zz := sfS (Safe.arv hZ.alike V479 (by decide)) (sf0)
  have cR18_K481 := cR17_K479.trans (CHr.keep K481 hs18_K481 cR17_K479.1)
  have sz18_K481 := K481.1
  obtain ⟨cl482, Ar482, q482, S482, Nn482, H482, G482⟩ := id V481
  obtain ⟨T483, h483, X483, e483, W483, st483⟩ := stC X481 hx hZ e481 Ar482 (j := (4 : Int32)) (inb_of S482 ⟨by decide, by decide⟩) (g := (mkF m 168 #[vI p1, vI p2, vI p3, vI p4, vI p5, vI c5, vI c6, vI c7, vI c8, vI c9, vI c10, vI 1, vR b423, vR b445, vR x468, vR x470, .unset, .unset, .unset, .unset, .unset, .unset, .unset] [(.int 114), (.int 4), (.ref b473), (.ref b473), (.ref b472), (.ref b472)])) rfl rfl (hb hby at_168)
  rw [own_nc (show ¬ (114 : Int32) < 0 ∧ ¬ (65535 : Int32) < (114 : Int32) by decide)] at W483
  have V483 : Arv Z h483 b473 k473 .char (13 : Int32) [(.int 101), (.int 114), (.int 114), (.int 111), (.int 114), (.int 0), (.int 0), (.int 0), (.int 0), (.int 0), (.int 0), (.int 0), (.int 0)] (.int 0) := Arv.set Ar482 q482 S482 Nn482 H482 G482 (own_fitc (show ¬ (114 : Int32) < 0 ∧ ¬ (65535 : Int32) < (114 : Int32) by decide)) W483 4 rfl (Nat.le_of_ble_eq_true rfl)
  have K483 := Keep.of_wr W483
  have N483 := Fr.snoc X483 N481 (by omega : @LE.le Nat _ n0 b473)
  have hs19_K483 : ∀ zz ∈ ([b473] : List Addr), Safe Z EL1 s.vm h481 zz := sfS (Safe.arv hZ.alike V481 (by decide)) (sf0)
  have cR19_K483 := cR18_K481.trans (CHr.keep K483 hs19_K483 cR18_K481.1)
  have sz19_K483 := K483.1
  obtain ⟨cl484, Ar484, q484, S484, Nn484, H484, G484⟩ := id V483
  obtain ⟨T485, h485, X485, e485, W485, st485⟩ := stC X483 hx hZ e483 Ar484 (j := (5 : Int32)) (inb_of S484 ⟨by decide, by decide⟩) (g := (mkF m 173 #[vI p1, vI p2, vI p3, vI p4, vI p5, vI c5, vI c6, vI c7, vI c8, vI c9, vI c10, vI 1, vR b423, vR b445, vR x468, vR x470, .unset, .unset, .unset, .unset, .unset, .unset, .unset] [(.int 91), (.int 5), (.ref b473), (.ref b473), (.ref b472), (.ref b472)])) rfl rfl (hb hby at_173)
  rw [own_nc (show ¬ (91 : Int32) < 0 ∧ ¬ (65535 : Int32) < (91 : Int32) by decide)] at W485
  have V485 : Arv Z h485 b473 k473 .char (13 : Int32) [(.int 101), (.int 114), (.int 114), (.int 111), (.int 114), (.int 91), (.int 0), (.int 0), (.int 0), (.int 0), (.int 0), (.int 0), (.int 0)] (.int 0) := Arv.set Ar484 q484 S484 Nn484 H484 G484 (own_fitc (show ¬ (91 : Int32) < 0 ∧ ¬ (65535 : Int32) < (91 : Int32) by decide)) W485 5 rfl (Nat.le_of_ble_eq_true rfl)
  have K485 := Keep.of_wr W485
  have N485 := Fr.snoc X485 N483 (by omega : @LE.le Nat _ n0 b473)
  have hs20_K485 : ∀ zz ∈ ([b473] : List Addr), Safe Z EL1 s.vm h483 zz := sfS (Safe.arv hZ.alike V483 (by decide)) (sf0)
  have cR20_K485 := cR19_K483.trans (CHr.keep K485 hs20_K485 cR19_K483.1)
  have sz20_K485 := K485.1
  obtain ⟨cl486, Ar486, q486, S486, Nn486, H486, G486⟩ := id V485
  obtain ⟨T487, h487, X487, e487, W487, st487⟩ := stC X485 hx hZ e485 Ar486 (j := (6 : Int32)) (inb_of S486 ⟨by decide, by decide⟩) (g := (mkF m 179 #[vI p1, vI p2, vI p3, vI p4, vI p5, vI c5, vI c6, vI c7, vI c8, vI c9, vI c10, vI 1, vR b423, vR b445, vR x468, vR x470, .unset, .unset, .unset, .unset, .unset, .unset, .unset] [(.int c5), (.int 6), (.ref b473), (.ref b473), (.ref b472), (.ref b472)])) rfl rfl (hb hby at_179)
  rw [own_nc (own_c255 rc5)] at W487
  have V487 : Arv Z h487 b473 k473 .char (13 : Int32) [(.int 101), (.int 114), (.int 114), (.int 111), (.int 114), (.int 91), (.int c5), (.int 0), (.int 0), (.int 0), (.int 0), (.int 0), (.int 0)] (.int 0) := Arv.set Ar486 q486 S486 Nn486 H486 G486 (own_fitc (own_c255 rc5)) W487 6 rfl (Nat.le_of_ble_eq_true rfl)
  have K487 := Keep.of_wr W487
  have N487 := Fr.snoc X487 N485 (by omega : @LE.le Nat _ n0 b473)
  have hs21_K487 : ∀ zz ∈ ([b473] : List Addr), Safe Z EL1 s.vm h485 zz := sfS (Safe.arv hZ.alike V485 (by decide)) (sf0)
  have cR21_K487 := cR20_K485.trans (CHr.keep K487 hs21_K487 cR20_K485.1)
  have sz21_K487 := K487.1
  obtain ⟨cl488, Ar488, q488, S488, Nn488, H488, G488⟩ := id V487
  obtain ⟨T489, h489, X489, e489, W489, st489⟩ := stC X487 hx hZ e487 Ar488 (j := (7 : Int32)) (inb_of S488 ⟨by decide, by decide⟩) (g := (mkF m 185 #[vI p1, vI p2, vI p3, vI p4, vI p5, vI c5, vI c6, vI c7, vI c8, vI c9, vI c10, vI 1, vR b423, vR b445, vR x468, vR x470, .unset, .unset, .unset, .unset, .unset, .unset, .unset] [(.int c6), (.int 7), (.ref b473), (.ref b473), (.ref b472), (.ref b472)])) rfl rfl (hb hby at_185)
  rw [own_nc (own_c255 rc6)] at W489
  have V489 : Arv Z h489 b473 k473 .char (13 : Int32) [(.int 101), (.int 114), (.int 114), (.int 111), (.int 114), (.int 91), (.int c5), (.int c6), (.int 0), (.int 0), (.int 0), (.int 0), (.int 0)] (.int 0) := Arv.set Ar488 q488 S488 Nn488 H488 G488 (own_fitc (own_c255 rc6)) W489 7 rfl (Nat.le_of_ble_eq_true rfl)
  have K489 := Keep.of_wr W489
  have N489 := Fr.snoc X489 N487 (by omega : @LE.le Nat _ n0 b473)
  have hs22_K489 : ∀ zz ∈ ([b473] : List Addr), Safe Z EL1 s.vm h487 zz := sfS (Safe.arv hZ.alike V487 (by decide)) (sf0)
  have cR22_K489 := cR21_K487.trans (CHr.keep K489 hs22_K489 cR21_K487.1)
  have sz22_K489 := K489.1
  obtain ⟨cl490, Ar490, q490, S490, Nn490, H490, G490⟩ := id V489
  obtain ⟨T491, h491, X491, e491, W491, st491⟩ := stC X489 hx hZ e489 Ar490 (j := (8 : Int32)) (inb_of S490 ⟨by decide, by decide⟩) (g := (mkF m 191 #[vI p1, vI p2, vI p3, vI p4, vI p5, vI c5, vI c6, vI c7, vI c8, vI c9, vI c10, vI 1, vR b423, vR b445, vR x468, vR x470, .unset, .unset, .unset, .unset, .unset, .unset, .unset] [(.int 93), (.int 8), (.ref b473), (.ref b473), (.ref b472), (.ref b472)])) rfl rfl (hb hby at_191)
  rw [own_nc (show ¬ (93 : Int32) < 0 ∧ ¬ (65535 : Int32) < (93 : Int32) by decide)] at W491
  have V491 : Arv Z h491 b473 k473 .char (13 : Int32) [(.int 101), (.int 114), (.int 114), (.int 111), (.int 114), (.int 91), (.int c5), (.int c6), (.int 93), (.int 0), (.int 0), (.int 0), (.int 0)] (.int 0) := Arv.set Ar490 q490 S490 Nn490 H490 G490 (own_fitc (show ¬ (93 : Int32) < 0 ∧ ¬ (65535 : Int32) < (93 : Int32) by decide)) W491 8 rfl (Nat.le_of_ble_eq_true rfl)
  have K491 := Keep.of_wr W491
  have N491 := Fr.snoc X491 N489 (by omega : @LE.le Nat _ n0 b473)
  have hs23_K491 : ∀ zz ∈ ([b473] : List Addr), Safe Z EL1 s.vm h489 zz := sfS (Safe.arv hZ.alike V489 (by decide)) (sf0)
  have cR23_K491 := cR22_K489.trans (CHr.keep K491 hs23_K491 cR22_K489.1)
  have sz23_K491 := K491.1
  obtain ⟨cl492, Ar492, q492, S492, Nn492, H492, G492⟩ := id V491
  obtain ⟨T493, h493, X493, e493, W493, st493⟩ := stC X491 hx hZ e491 Ar492 (j := (9 : Int32)) (inb_of S492 ⟨by decide, by decide⟩) (g := (mkF m 197 #[vI p1, vI p2, vI p3, vI p4, vI p5, vI c5, vI c6, vI c7, vI c8, vI c9, vI c10, vI 1, vR b423, vR b445, vR x468, vR x470, .unset, .unset, .unset, .unset, .unset, .unset, .unset] [(.int 58), (.int 9), (.ref b473), (.ref b473), (.ref b472), (.ref b472)])) rfl rfl (hb hby at_197)
  rw [own_nc (show ¬ (58 : Int32) < 0 ∧ ¬ (65535 : Int32) < (58 : Int32) by decide)] at W493
  have V493 : Arv Z h493 b473 k473 .char (13 : Int32) [(.int 101), (.int 114), (.int 114), (.int 111), (.int 114), (.int 91), (.int c5), (.int c6), (.int 93), (.int 58), (.int 0), (.int 0), (.int 0)] (.int 0) := Arv.set Ar492 q492 S492 Nn492 H492 G492 (own_fitc (show ¬ (58 : Int32) < 0 ∧ ¬ (65535 : Int32) < (58 : Int32) by decide)) W493 9 rfl (Nat.le_of_ble_eq_true rfl)
  have K493 := Keep.of_wr W493
  have N493 := Fr.snoc X493 N491 (by omega : @LE.le Nat _ n0 b473)
  have hs24_K493 : ∀ zz ∈ ([b473] : List Addr), Safe Z EL1 s.vm h491 zz := sfS (Safe.arv hZ.alike V491 (by decide)) (sf0)
  have cR24_K493 := cR23_K491.trans (CHr.keep K493 hs24_K493 cR23_K491.1)
  have sz24_K493 := K493.1
  obtain ⟨cl494, Ar494, q494, S494, Nn494, H494, G494⟩ := id V493
  obtain ⟨T495, h495, X495, e495, W495, st495⟩ := stC X493 hx hZ e493 Ar494 (j := (10 : Int32)) (inb_of S494 ⟨by decide, by decide⟩) (g := (mkF m 203 #[vI p1, vI p2, vI p3, vI p4, vI p5, vI c5, vI c6, vI c7, vI c8, vI c9, vI c10, vI 1, vR b423, vR b445, vR x468, vR x470, .unset, .unset, .unset, .unset, .unset, .unset, .unset] [(.int 32), (.int 10), (.ref b473), (.ref b473), (.ref b472), (.ref b472)])) rfl rfl (hb hby at_203)
  rw [own_nc (show ¬ (32 : Int32) < 0 ∧ ¬ (65535 : Int32) < (32 : Int32) by decide)] at W495
  have V495 : Arv Z h495 b473 k473 .char (13 : Int32) [(.int 101), (.int 114), (.int 114), (.int 111), (.int 114), (.int 91), (.int c5), (.int c6), (.int 93), (.int 58), (.int 32), (.int 0), (.int 0)] (.int 0) := Arv.set Ar494 q494 S494 Nn494 H494 G494 (own_fitc (show ¬ (32 : Int32) < 0 ∧ ¬ (65535 : Int32) < (32 : Int32) by decide)) W495 10 rfl (Nat.le_of_ble_eq_true rfl)
  have K495 := Keep.of_wr W495
  have N495 := Fr.snoc X495 N493 (by omega : @LE.le Nat _ n0 b473)
  have hs25_K495 : ∀ zz ∈ ([b473] : List Addr), Safe Z EL1 s.vm h493 zz := sfS (Safe.arv hZ.alike V493 (by decide)) (sf0)
  have cR25_K495 := cR24_K493.trans (CHr.keep K495 hs25_K495 cR24_K493.1)
  have sz25_K495 := K495.1
  obtain ⟨cl496, Ar496, q496, S496, Nn496, H496, G496⟩ := id V495
  obtain ⟨T497, h497, X497, e497, W497, st497⟩ := stC X495 hx hZ e495 Ar496 (j := (11 : Int32)) (inb_of S496 ⟨by decide, by decide⟩) (g := (mkF m 209 #[vI p1, vI p2, vI p3, vI p4, vI p5, vI c5, vI c6, vI c7, vI c8, vI c9, vI c10, vI 1, vR b423, vR b445, vR x468, vR x470, .unset, .unset, .unset, .unset, .unset, .unset, .unset] [(.int c7), (.int 11), (.ref b473), (.ref b473), (.ref b472), (.ref b472)])) rfl rfl (hb hby at_209)
  rw [own_nc (own_c255 rc7)] at W497
  have V497 : Arv Z h497 b473 k473 .char (13 : Int32) [(.int 101), (.int 114), (.int 114), (.int 111), (.int 114), (.int 91), (.int c5), (.int c6), (.int 93), (.int 58), (.int 32), (.int c7), (.int 0)] (.int 0) := Arv.set Ar496 q496 S496 Nn496 H496 G496 (own_fitc (own_c255 rc7)) W497 11 rfl (Nat.le_of_ble_eq_true rfl)
  have K497 := Keep.of_wr W497
  have N497 := Fr.snoc X497 N495 (by omega : @LE.le Nat _ n0 b473)
  have hs26_K497 : ∀ zz ∈ ([b473] : List Addr), Safe Z EL1 s.vm h495 zz := sfS (Safe.arv hZ.alike V495 (by decide)) (sf0)
  have cR26_K497 := cR25_K495.trans (CHr.keep K497 hs26_K497 cR25_K495.1)
  have sz26_K497 := K497.1
  obtain ⟨cl498, Ar498, q498, S498, Nn498, H498, G498⟩ := id V497
  obtain ⟨T499, h499, X499, e499, W499, st499⟩ := stC X497 hx hZ e497 Ar498 (j := (12 : Int32)) (inb_of S498 ⟨by decide, by decide⟩) (g := (mkF m 215 #[vI p1, vI p2, vI p3, vI p4, vI p5, vI c5, vI c6, vI c7, vI c8, vI c9, vI c10, vI 1, vR b423, vR b445, vR x468, vR x470, .unset, .unset, .unset, .unset, .unset, .unset, .unset] [(.int c8), (.int 12), (.ref b473), (.ref b473), (.ref b472), (.ref b472)])) rfl rfl (hb hby at_215)
  rw [own_nc (own_c255 rc8)] at W499
  have V499 : Arv Z h499 b473 k473 .char (13 : Int32) [(.int 101), (.int 114), (.int 114), (.int 111), (.int 114), (.int 91), (.int c5), (.int c6), (.int 93), (.int 58), (.int 32), (.int c7), (.int c8)] (.int 0) := Arv.set Ar498 q498 S498 Nn498 H498 G498 (own_fitc (own_c255 rc8)) W499 12 rfl (Nat.le_of_ble_eq_true rfl)
  have K499 := Keep.of_wr W499
  have N499 := Fr.snoc X499 N497 (by omega : @LE.le Nat _ n0 b473)
  have hs27_K499 : ∀ zz ∈ ([b473] : List Addr), Safe Z EL1 s.vm h497 zz := sfS (Safe.arv hZ.alike V497 (by decide)) (sf0)
  have cR27_K499 := cR26_K497.trans (CHr.keep K499 hs27_K499 cR26_K497.1)
  have sz27_K499 := K499.1
  have hL501 : ∀ c ∈ ([(101 : Int32), (114 : Int32), (114 : Int32), (111 : Int32), (114 : Int32), (91 : Int32), c5, c6, (93 : Int32), (58 : Int32), (32 : Int32), c7, c8] : List Int32), ¬ c < 0 ∧ ¬ (255 : Int32) < c := by intro c hc; simp only [List.mem_cons, List.not_mem_nil, or_false] at hc; rcases hc with rfl | rfl | rfl | rfl | rfl | rfl | rfl | rfl | rfl | rfl | rfl | rfl | rfl <;> first | decide | exact rc5 | exact rc6 | exact rc7 | exact rc8
  have KD502 : Keep h472 h475 [] := ((Keep.refl _ _).trans K473 (all0)).trans K475 (allS (Or.inr (by omega)) (all0))
  have KD503 : Keep h472 h477 [] := ((Keep.refl _ _).trans KD502 (all0)).trans K477 (allS (Or.inr (by omega)) (all0))
  have KD504 : Keep h472 h479 [] := ((Keep.refl _ _).trans KD503 (all0)).trans K479 (allS (Or.inr (by omega)) (all0))
  have KD505 : Keep h472 h481 [] := ((Keep.refl _ _).trans KD504 (all0)).trans K481 (allS (Or.inr (by omega)) (all0))
  have KD506 : Keep h472 h483 [] := ((Keep.refl _ _).trans KD505 (all0)).trans K483 (allS (Or.inr (by omega)) (all0))
  have KD507 : Keep h472 h485 [] := ((Keep.refl _ _).trans KD506 (all0)).trans K485 (allS (Or.inr (by omega)) (all0))
  have KD508 : Keep h472 h487 [] := ((Keep.refl _ _).trans KD507 (all0)).trans K487 (allS (Or.inr (by omega)) (all0))
  have KD509 : Keep h472 h489 [] := ((Keep.refl _ _).trans KD508 (all0)).trans K489 (allS (Or.inr (by omega)) (all0))
  have KD510 : Keep h472 h491 [] := ((Keep.refl _ _).trans KD509 (all0)).trans K491 (allS (Or.inr (by omega)) (all0))
  have KD511 : Keep h472 h493 [] := ((Keep.refl _ _).trans KD510 (all0)).trans K493 (allS (Or.inr (by omega)) (all0))
  have KD512 : Keep h472 h495 [] := ((Keep.refl _ _).trans KD511 (all0)).trans K495 (allS (Or.inr (by omega)) (all0))
  have KD513 : Keep h472 h497 [] := ((Keep.refl _ _).trans KD512 (all0)).trans K497 (allS (Or.inr (by omega)) (all0))
  have KD514 : Keep h472 h499 [] := ((Keep.refl _ _).trans KD513 (all0)).trans K499 (allS (Or.inr (by omega)) (all0))
  have C515 := A472.keep KD514
  have C516 := F472_value.keep KD514 nin0
  have C517 := F472_coder.keep KD514 nin0
  have O518 : Old Z n0 T470.heap := O471.keep K470 all0
  have O519 : Old Z n0 h472 := O518.keep K472 all0
  have O520 : Old Z n0 h473 := O519.keep K473 all0
  have O521 : Old Z n0 h475 := O520.keep K475 (allS (by omega) (all0))
  have O522 : Old Z n0 h477 := O521.keep K477 (allS (by omega) (all0))
  have O523 : Old Z n0 h479 := O522.keep K479 (allS (by omega) (all0))
  have O524 : Old Z n0 h481 := O523.keep K481 (allS (by omega) (all0))
  have O525 : Old Z n0 h483 := O524.keep K483 (allS (by omega) (all0))
  have O526 : Old Z n0 h485 := O525.keep K485 (allS (by omega) (all0))
  have O527 : Old Z n0 h487 := O526.keep K487 (allS (by omega) (all0))
  have O528 : Old Z n0 h489 := O527.keep K489 (allS (by omega) (all0))
  have O529 : Old Z n0 h491 := O528.keep K491 (allS (by omega) (all0))
  have O530 : Old Z n0 h493 := O529.keep K493 (allS (by omega) (all0))
  have O531 : Old Z n0 h495 := O530.keep K495 (allS (by omega) (all0))
  have O532 : Old Z n0 h497 := O531.keep K497 (allS (by omega) (all0))
  have O533 : Old Z n0 h499 := O532.keep K499 (allS (by omega) (all0))
  obtain ⟨_, _, ⟨T500, L500, k500, n500⟩, -, X500, ⟨Lc500, hQ500, l500, y500, z500⟩, st500⟩ := X499.specialBack hx (y := mN56) rfl hown (mvT hZ (tw hw 4 rfl)) (mvT hZ (tw hw 5 rfl)) (mvT hZ (tw hw 6 rfl)) (by decide) (StrChars.Road.backV (W := 1) hZ hws (kI := 4) (tw hw 1 rfl) (cs := ([(101 : Int32), (114 : Int32), (114 : Int32), (111 : Int32), (114 : Int32), (91 : Int32), c5, c6, (93 : Int32), (58 : Int32), (32 : Int32), c7, c8] : List Int32)) (bs := ([(101 : Int32), (114 : Int32), (114 : Int32), (111 : Int32), (114 : Int32), (91 : Int32), c5, c6, (93 : Int32), (58 : Int32), (32 : Int32), c7, c8] : List Int32).map (fun c => c.toInt8.toInt32)) (n := 13) (by omega : @LE.le Nat _ n0 b472) (by omega) C515 C516 C517 V499 (Sta.ext O533.2 S_CS) c_CS rfl rfl (by decide) (by decide) hL501 rfl (by decide) (by decide)) (g := (mkF m 216 #[vI p1, vI p2, vI p3, vI p4, vI p5, vI c5, vI c6, vI c7, vI c8, vI c9, vI c10, vI 1, vR b423, vR b445, vR x468, vR x470, .unset, .unset, .unset, .unset, .unset, .unset, .unset] [(.ref b473), (.ref b472), (.ref b472)])) rfl (by rw [hml]; rfl) (Steps.refl _) (a := b472) (argsL := [(.ref b473)]) (rest := [(.ref b472)]) (lenOf pd_0 rfl) rfl (wL _) (hb hby at_216) (fun _ _ => ⟨rfl, e499, (by decide : 12 + 1 ≤ _), (by decide : 43 + 13 ≤ _)⟩)
  dsimp only [Pt.U, Pt.locs, Pt.cells, Pt.slots] at X500 l500 y500 z500 st500 hQ500
  rw [l500] at X500
  subst y500 z500
  obtain ⟨rfl, N500q, K500, E500, C500, t500, kb500, ge500, gh500, tx500, Vf500, Av500⟩ := hQ500
  have lt500 : @LT.lt Nat _ t500 T500.heap.size := Av500.lt
  have Sf534 : Safe Z EL1 s.vm T470.heap b472 := Safe.new (by omega)
  have Sf535 := Safe.keep K472 sf0 cR12_K470.1 Sf534
  have Sf536 := Safe.keep K473 sf0 cR13_K472.1 Sf535
  have Sf537 := Safe.keep K475 hs15_K475 cR14_K473.1 Sf536
  have Sf538 := Safe.keep K477 hs16_K477 cR15_K475.1 Sf537
  have Sf539 := Safe.keep K479 hs17_K479 cR16_K477.1 Sf538
  have Sf540 := Safe.keep K481 hs18_K481 cR17_K479.1 Sf539
  have Sf541 := Safe.keep K483 hs19_K483 cR18_K481.1 Sf540
  have Sf542 := Safe.keep K485 hs20_K485 cR19_K483.1 Sf541
  have Sf543 := Safe.keep K487 hs21_K487 cR20_K485.1 Sf542
  have Sf544 := Safe.keep K489 hs22_K489 cR21_K487.1 Sf543
  have Sf545 := Safe.keep K491 hs23_K491 cR22_K489.1 Sf544
  have Sf546 := Safe.keep K493 hs24_K493 cR23_K491.1 Sf545
  have Sf547 := Safe.keep K495 hs25_K495 cR24_K493.1 Sf546
  have Sf548 := Safe.keep K497 hs26_K497 cR25_K495.1 Sf547
  have Sf549 := Safe.keep K499 hs27_K499 cR26_K497.1 Sf548
  have hs28_K500 : ∀ zz ∈ ([b472] : List Addr), Safe Z EL1 s.vm h499 zz := sfS Sf549 (sf0)
  have cR28_K500 := cR27_K499.trans (CHr.keep K500 hs28_K500 cR27_K499.1)
  have sz28_K500 := K500.1
  have gt500_ : @Ne Nat t500 b472 := tx500
  have N500 := Fr.app N499 N500q
  obtain ⟨T550, h550, X550, e550, E550, A550, D550, -, st550⟩ := newO X500 hx hZ hown (tw hw 0 rfl) (tw hw 1 rfl) (tw hw 2 rfl) rfl (g := (mkF m 226 #[vI p1, vI p2, vI p3, vI p4, vI p5, vI c5, vI c6, vI c7, vI c8, vI c9, vI c10, vI 1, vR b423, vR b445, vR x468, vR x470, vR b472, .unset, .unset, .unset, .unset, .unset, .unset] [])) rfl (hb hby at_226) (by decide) (by decide)
  obtain ⟨b550, g550⟩ : ∃ z, z = T500.heap.size := ⟨_, rfl⟩
  rw [← g550] at A550 D550 st550
  have lt550 : @LT.lt Nat _ b550 h550.size := A550.lt
  have K550 : Keep T500.heap h550 [] := (Keep.refl _ _).ext E550
  have cR29_K550 := cR28_K500.trans (CHr.keep K550 sf0 cR28_K500.1)
  have sz29_K550 := K550.1
  have F550_coder : Fld Z h550 b550 "java/lang/String" "coder" "B" (.int 0) := D550 (Or.inr (tw hw 27 rfl)) (ty := .byte) (by decide)
  have F550_value : Fld Z h550 b550 "java/lang/String" "value" "[B" .null := D550 (Or.inr (tw hw 29 rfl)) (ty := (.array .byte)) (by decide)
  obtain ⟨T551, h551, k551, X551, e551, E551, A551, st551⟩ := newP X550 hx hZ (tw hw 3 rfl) e550 (g := (mkF m 232 #[vI p1, vI p2, vI p3, vI p4, vI p5, vI c5, vI c6, vI c7, vI c8, vI c9, vI c10, vI 1, vR b423, vR b445, vR x468, vR x470, vR b472, .unset, .unset, .unset, .unset, .unset, .unset] [(.int 11), (.ref b550), (.ref b550)])) rfl (hb hby at_232) rfl (by decide) (cap := 11) (by decide) (by decide) (by decide) (by decide)
  obtain ⟨b551, g551⟩ : ∃ z, z = h550.size := ⟨_, rfl⟩
  rw [← g551] at A551 st551
  have V551 : Arv Z h551 b551 k551 .char (11 : Int32) [(.int 0), (.int 0), (.int 0), (.int 0), (.int 0), (.int 0), (.int 0), (.int 0), (.int 0), (.int 0), (.int 0)] (.int 0) := (Arv.new A551 (by decide)).pad (pad_rep [] (.int 0) 11)
  have lt551 : @LT.lt Nat _ b551 h551.size := V551.lt
  have K551 : Keep h550 h551 [] := (Keep.refl _ _).ext E551
  have cR30_K551 := cR29_K550.trans (CHr.keep K551 sf0 cR29_K550.1)
  have sz30_K551 := K551.1
  obtain ⟨cl552, Ar552, q552, S552, Nn552, H552, G552⟩ := id V551
  obtain ⟨T553, h553, X553, e553, W553, st553⟩ := stC X551 hx hZ e551 Ar552 (j := (0 : Int32)) (inb_of S552 ⟨by decide, by decide⟩) (g := (mkF m 238 #[vI p1, vI p2, vI p3, vI p4, vI p5, vI c5, vI c6, vI c7, vI c8, vI c9, vI c10, vI 1, vR b423, vR b445, vR x468, vR x470, vR b472, .unset, .unset, .unset, .unset, .unset, .unset] [(.int 101), (.int 0), (.ref b551), (.ref b551), (.ref b550), (.ref b550)])) rfl rfl (hb hby at_238)
  rw [own_nc (show ¬ (101 : Int32) < 0 ∧ ¬ (65535 : Int32) < (101 : Int32) by decide)] at W553
  have V553 : Arv Z h553 b551 k551 .char (11 : Int32) [(.int 101), (.int 0), (.int 0), (.int 0), (.int 0), (.int 0), (.int 0), (.int 0), (.int 0), (.int 0), (.int 0)] (.int 0) := Arv.set Ar552 q552 S552 Nn552 H552 G552 (own_fitc (show ¬ (101 : Int32) < 0 ∧ ¬ (65535 : Int32) < (101 : Int32) by decide)) W553 0 rfl (Nat.le_of_ble_eq_true rfl)
  have K553 := Keep.of_wr W553
  have N553 := Fr.snoc X553 N500 (by omega : @LE.le Nat _ n0 b551)
  have hs31_K553 : ∀ zz ∈ ([b551] : List Addr), Safe Z EL1 s.vm h551 zz := sfS (Safe.arv hZ.alike V551 (by decide)) (sf0)
  have cR31_K553 := cR30_K551.trans (CHr.keep K553 hs31_K553 cR30_K551.1)
  have sz31_K553 := K553.1
  obtain ⟨cl554, Ar554, q554, S554, Nn554, H554, G554⟩ := id V553
  obtain ⟨T555, h555, X555, e555, W555, st555⟩ := stC X553 hx hZ e553 Ar554 (j := (1 : Int32)) (inb_of S554 ⟨by decide, by decide⟩) (g := (mkF m 243 #[vI p1, vI p2, vI p3, vI p4, vI p5, vI c5, vI c6, vI c7, vI c8, vI c9, vI c10, vI 1, vR b423, vR b445, vR x468, vR x470, vR b472, .unset, .unset, .unset, .unset, .unset, .unset] [(.int 114), (.int 1), (.ref b551), (.ref b551), (.ref b550), (.ref b550)])) rfl rfl (hb hby at_243)
  rw [own_nc (show ¬ (114 : Int32) < 0 ∧ ¬ (65535 : Int32) < (114 : Int32) by decide)] at W555
  have V555 : Arv Z h555 b551 k551 .char (11 : Int32) [(.int 101), (.int 114), (.int 0), (.int 0), (.int 0), (.int 0), (.int 0), (.int 0), (.int 0), (.int 0), (.int 0)] (.int 0) := Arv.set Ar554 q554 S554 Nn554 H554 G554 (own_fitc (show ¬ (114 : Int32) < 0 ∧ ¬ (65535 : Int32) < (114 : Int32) by decide)) W555 1 rfl (Nat.le_of_ble_eq_true rfl)
  have K555 := Keep.of_wr W555
  have N555 := Fr.snoc X555 N553 (by omega : @LE.le Nat _ n0 b551)
  have hs32_K555 : ∀ zz ∈ ([b551] : List Addr), Safe Z EL1 s.vm h553 zz := sfS (Safe.arv hZ.alike V553 (by decide)) (sf0)
  have cR32_K555 := cR31_K553.trans (CHr.keep K555 hs32_K555 cR31_K553.1)
  have sz32_K555 := K555.1
  obtain ⟨cl556, Ar556, q556, S556, Nn556, H556, G556⟩ := id V555
  obtain ⟨T557, h557, X557, e557, W557, st557⟩ := stC X555 hx hZ e555 Ar556 (j := (2 : Int32)) (inb_of S556 ⟨by decide, by decide⟩) (g := (mkF m 248 #[vI p1, vI p2, vI p3, vI p4, vI p5, vI c5, vI c6, vI c7, vI c8, vI c9, vI c10, vI 1, vR b423, vR b445, vR x468, vR x470, vR b472, .unset, .unset, .unset, .unset, .unset, .unset] [(.int 114), (.int 2), (.ref b551), (.ref b551), (.ref b550), (.ref b550)])) rfl rfl (hb hby at_248)
  rw [own_nc (show ¬ (114 : Int32) < 0 ∧ ¬ (65535 : Int32) < (114 : Int32) by decide)] at W557
  have V557 : Arv Z h557 b551 k551 .char (11 : Int32) [(.int 101), (.int 114), (.int 114), (.int 0), (.int 0), (.int 0), (.int 0), (.int 0), (.int 0), (.int 0), (.int 0)] (.int 0) := Arv.set Ar556 q556 S556 Nn556 H556 G556 (own_fitc (show ¬ (114 : Int32) < 0 ∧ ¬ (65535 : Int32) < (114 : Int32) by decide)) W557 2 rfl (Nat.le_of_ble_eq_true rfl)
  have K557 := Keep.of_wr W557
  have N557 := Fr.snoc X557 N555 (by omega : @LE.le Nat _ n0 b551)
  have hs33_K557 : ∀ zz ∈ ([b551] : List Addr), Safe Z EL1 s.vm h555 zz := sfS (Safe.arv hZ.alike V555 (by decide)) (sf0)
  have cR33_K557 := cR32_K555.trans (CHr.keep K557 hs33_K557 cR32_K555.1)
  have sz33_K557 := K557.1
  obtain ⟨cl558, Ar558, q558, S558, Nn558, H558, G558⟩ := id V557
  obtain ⟨T559, h559, X559, e559, W559, st559⟩ := stC X557 hx hZ e557 Ar558 (j := (3 : Int32)) (inb_of S558 ⟨by decide, by decide⟩) (g := (mkF m 253 #[vI p1, vI p2, vI p3, vI p4, vI p5, vI c5, vI c6, vI c7, vI c8, vI c9, vI c10, vI 1, vR b423, vR b445, vR x468, vR x470, vR b472, .unset, .unset, .unset, .unset, .unset, .unset] [(.int 111), (.int 3), (.ref b551), (.ref b551), (.ref b550), (.ref b550)])) rfl rfl (hb hby at_253)
  rw [own_nc (show ¬ (111 : Int32) < 0 ∧ ¬ (65535 : Int32) < (111 : Int32) by decide)] at W559
  have V559 : Arv Z h559 b551 k551 .char (11 : Int32) [(.int 101), (.int 114), (.int 114), (.int 111), (.int 0), (.int 0), (.int 0), (.int 0), (.int 0), (.int 0), (.int 0)] (.int 0) := Arv.set Ar558 q558 S558 Nn558 H558 G558 (own_fitc (show ¬ (111 : Int32) < 0 ∧ ¬ (65535 : Int32) < (111 : Int32) by decide)) W559 3 rfl (Nat.le_of_ble_eq_true rfl)
  have K559 := Keep.of_wr W559
  have N559 := Fr.snoc X559 N557 (by omega : @LE.le Nat _ n0 b551)
  have hs34_K559 : ∀ zz ∈ ([b551] : List Addr), Safe Z EL1 s.vm h557 zz := sfS (Safe.arv hZ.alike V557 (by decide)) (sf0)
  have cR34_K559 := cR33_K557.trans (CHr.keep K559 hs34_K559 cR33_K557.1)
  have sz34_K559 := K559.1
  obtain ⟨cl560, Ar560, q560, S560, Nn560, H560, G560⟩ := id V559
  obtain ⟨T561, h561, X561, e561, W561, st561⟩ := stC X559 hx hZ e559 Ar560 (j := (4 : Int32)) (inb_of S560 ⟨by decide, by decide⟩) (g := (mkF m 258 #[vI p1, vI p2, vI p3, vI p4, vI p5, vI c5, vI c6, vI c7, vI c8, vI c9, vI c10, vI 1, vR b423, vR b445, vR x468, vR x470, vR b472, .unset, .unset, .unset, .unset, .unset, .unset] [(.int 114), (.int 4), (.ref b551), (.ref b551), (.ref b550), (.ref b550)])) rfl rfl (hb hby at_258)
  rw [own_nc (show ¬ (114 : Int32) < 0 ∧ ¬ (65535 : Int32) < (114 : Int32) by decide)] at W561
  have V561 : Arv Z h561 b551 k551 .char (11 : Int32) [(.int 101), (.int 114), (.int 114), (.int 111), (.int 114), (.int 0), (.int 0), (.int 0), (.int 0), (.int 0), (.int 0)] (.int 0) := Arv.set Ar560 q560 S560 Nn560 H560 G560 (own_fitc (show ¬ (114 : Int32) < 0 ∧ ¬ (65535 : Int32) < (114 : Int32) by decide)) W561 4 rfl (Nat.le_of_ble_eq_true rfl)
  have K561 := Keep.of_wr W561
  have N561 := Fr.snoc X561 N559 (by omega : @LE.le Nat _ n0 b551)
  have hs35_K561 : ∀ zz ∈ ([b551] : List Addr), Safe Z EL1 s.vm h559 zz := sfS (Safe.arv hZ.alike V559 (by decide)) (sf0)
  have cR35_K561 := cR34_K559.trans (CHr.keep K561 hs35_K561 cR34_K559.1)
  have sz35_K561 := K561.1
  obtain ⟨cl562, Ar562, q562, S562, Nn562, H562, G562⟩ := id V561
  obtain ⟨T563, h563, X563, e563, W563, st563⟩ := stC X561 hx hZ e561 Ar562 (j := (5 : Int32)) (inb_of S562 ⟨by decide, by decide⟩) (g := (mkF m 263 #[vI p1, vI p2, vI p3, vI p4, vI p5, vI c5, vI c6, vI c7, vI c8, vI c9, vI c10, vI 1, vR b423, vR b445, vR x468, vR x470, vR b472, .unset, .unset, .unset, .unset, .unset, .unset] [(.int 91), (.int 5), (.ref b551), (.ref b551), (.ref b550), (.ref b550)])) rfl rfl (hb hby at_263)
  rw [own_nc (show ¬ (91 : Int32) < 0 ∧ ¬ (65535 : Int32) < (91 : Int32) by decide)] at W563
  have V563 : Arv Z h563 b551 k551 .char (11 : Int32) [(.int 101), (.int 114), (.int 114), (.int 111), (.int 114), (.int 91), (.int 0), (.int 0), (.int 0), (.int 0), (.int 0)] (.int 0) := Arv.set Ar562 q562 S562 Nn562 H562 G562 (own_fitc (show ¬ (91 : Int32) < 0 ∧ ¬ (65535 : Int32) < (91 : Int32) by decide)) W563 5 rfl (Nat.le_of_ble_eq_true rfl)
  have K563 := Keep.of_wr W563
  have N563 := Fr.snoc X563 N561 (by omega : @LE.le Nat _ n0 b551)
  have hs36_K563 : ∀ zz ∈ ([b551] : List Addr), Safe Z EL1 s.vm h561 zz := sfS (Safe.arv hZ.alike V561 (by decide)) (sf0)
  have cR36_K563 := cR35_K561.trans (CHr.keep K563 hs36_K563 cR35_K561.1)
  have sz36_K563 := K563.1
  obtain ⟨cl564, Ar564, q564, S564, Nn564, H564, G564⟩ := id V563
  obtain ⟨T565, h565, X565, e565, W565, st565⟩ := stC X563 hx hZ e563 Ar564 (j := (6 : Int32)) (inb_of S564 ⟨by decide, by decide⟩) (g := (mkF m 269 #[vI p1, vI p2, vI p3, vI p4, vI p5, vI c5, vI c6, vI c7, vI c8, vI c9, vI c10, vI 1, vR b423, vR b445, vR x468, vR x470, vR b472, .unset, .unset, .unset, .unset, .unset, .unset] [(.int c9), (.int 6), (.ref b551), (.ref b551), (.ref b550), (.ref b550)])) rfl rfl (hb hby at_269)
  rw [own_nc (own_c255 rc9)] at W565
  have V565 : Arv Z h565 b551 k551 .char (11 : Int32) [(.int 101), (.int 114), (.int 114), (.int 111), (.int 114), (.int 91), (.int c9), (.int 0), (.int 0), (.int 0), (.int 0)] (.int 0) := Arv.set Ar564 q564 S564 Nn564 H564 G564 (own_fitc (own_c255 rc9)) W565 6 rfl (Nat.le_of_ble_eq_true rfl)
  have K565 := Keep.of_wr W565
  have N565 := Fr.snoc X565 N563 (by omega : @LE.le Nat _ n0 b551)
  have hs37_K565 : ∀ zz ∈ ([b551] : List Addr), Safe Z EL1 s.vm h563 zz := sfS (Safe.arv hZ.alike V563 (by decide)) (sf0)
  have cR37_K565 := cR36_K563.trans (CHr.keep K565 hs37_K565 cR36_K563.1)
  have sz37_K565 := K565.1
  obtain ⟨cl566, Ar566, q566, S566, Nn566, H566, G566⟩ := id V565
  obtain ⟨T567, h567, X567, e567, W567, st567⟩ := stC X565 hx hZ e565 Ar566 (j := (7 : Int32)) (inb_of S566 ⟨by decide, by decide⟩) (g := (mkF m 275 #[vI p1, vI p2, vI p3, vI p4, vI p5, vI c5, vI c6, vI c7, vI c8, vI c9, vI c10, vI 1, vR b423, vR b445, vR x468, vR x470, vR b472, .unset, .unset, .unset, .unset, .unset, .unset] [(.int 93), (.int 7), (.ref b551), (.ref b551), (.ref b550), (.ref b550)])) rfl rfl (hb hby at_275)
  rw [own_nc (show ¬ (93 : Int32) < 0 ∧ ¬ (65535 : Int32) < (93 : Int32) by decide)] at W567
  have V567 : Arv Z h567 b551 k551 .char (11 : Int32) [(.int 101), (.int 114), (.int 114), (.int 111), (.int 114), (.int 91), (.int c9), (.int 93), (.int 0), (.int 0), (.int 0)] (.int 0) := Arv.set Ar566 q566 S566 Nn566 H566 G566 (own_fitc (show ¬ (93 : Int32) < 0 ∧ ¬ (65535 : Int32) < (93 : Int32) by decide)) W567 7 rfl (Nat.le_of_ble_eq_true rfl)
  have K567 := Keep.of_wr W567
  have N567 := Fr.snoc X567 N565 (by omega : @LE.le Nat _ n0 b551)
  have hs38_K567 : ∀ zz ∈ ([b551] : List Addr), Safe Z EL1 s.vm h565 zz := sfS (Safe.arv hZ.alike V565 (by decide)) (sf0)
  have cR38_K567 := cR37_K565.trans (CHr.keep K567 hs38_K567 cR37_K565.1)
  have sz38_K567 := K567.1
  obtain ⟨cl568, Ar568, q568, S568, Nn568, H568, G568⟩ := id V567
  obtain ⟨T569, h569, X569, e569, W569, st569⟩ := stC X567 hx hZ e567 Ar568 (j := (8 : Int32)) (inb_of S568 ⟨by decide, by decide⟩) (g := (mkF m 281 #[vI p1, vI p2, vI p3, vI p4, vI p5, vI c5, vI c6, vI c7, vI c8, vI c9, vI c10, vI 1, vR b423, vR b445, vR x468, vR x470, vR b472, .unset, .unset, .unset, .unset, .unset, .unset] [(.int 58), (.int 8), (.ref b551), (.ref b551), (.ref b550), (.ref b550)])) rfl rfl (hb hby at_281)
  rw [own_nc (show ¬ (58 : Int32) < 0 ∧ ¬ (65535 : Int32) < (58 : Int32) by decide)] at W569
  have V569 : Arv Z h569 b551 k551 .char (11 : Int32) [(.int 101), (.int 114), (.int 114), (.int 111), (.int 114), (.int 91), (.int c9), (.int 93), (.int 58), (.int 0), (.int 0)] (.int 0) := Arv.set Ar568 q568 S568 Nn568 H568 G568 (own_fitc (show ¬ (58 : Int32) < 0 ∧ ¬ (65535 : Int32) < (58 : Int32) by decide)) W569 8 rfl (Nat.le_of_ble_eq_true rfl)
  have K569 := Keep.of_wr W569
  have N569 := Fr.snoc X569 N567 (by omega : @LE.le Nat _ n0 b551)
  have hs39_K569 : ∀ zz ∈ ([b551] : List Addr), Safe Z EL1 s.vm h567 zz := sfS (Safe.arv hZ.alike V567 (by decide)) (sf0)
  have cR39_K569 := cR38_K567.trans (CHr.keep K569 hs39_K569 cR38_K567.1)
  have sz39_K569 := K569.1
  obtain ⟨cl570, Ar570, q570, S570, Nn570, H570, G570⟩ := id V569
  obtain ⟨T571, h571, X571, e571, W571, st571⟩ := stC X569 hx hZ e569 Ar570 (j := (9 : Int32)) (inb_of S570 ⟨by decide, by decide⟩) (g := (mkF m 287 #[vI p1, vI p2, vI p3, vI p4, vI p5, vI c5, vI c6, vI c7, vI c8, vI c9, vI c10, vI 1, vR b423, vR b445, vR x468, vR x470, vR b472, .unset, .unset, .unset, .unset, .unset, .unset] [(.int 32), (.int 9), (.ref b551), (.ref b551), (.ref b550), (.ref b550)])) rfl rfl (hb hby at_287)
  rw [own_nc (show ¬ (32 : Int32) < 0 ∧ ¬ (65535 : Int32) < (32 : Int32) by decide)] at W571
  have V571 : Arv Z h571 b551 k551 .char (11 : Int32) [(.int 101), (.int 114), (.int 114), (.int 111), (.int 114), (.int 91), (.int c9), (.int 93), (.int 58), (.int 32), (.int 0)] (.int 0) := Arv.set Ar570 q570 S570 Nn570 H570 G570 (own_fitc (show ¬ (32 : Int32) < 0 ∧ ¬ (65535 : Int32) < (32 : Int32) by decide)) W571 9 rfl (Nat.le_of_ble_eq_true rfl)
  have K571 := Keep.of_wr W571
  have N571 := Fr.snoc X571 N569 (by omega : @LE.le Nat _ n0 b551)
  have hs40_K571 : ∀ zz ∈ ([b551] : List Addr), Safe Z EL1 s.vm h569 zz := sfS (Safe.arv hZ.alike V569 (by decide)) (sf0)
  have cR40_K571 := cR39_K569.trans (CHr.keep K571 hs40_K571 cR39_K569.1)
  have sz40_K571 := K571.1
  obtain ⟨cl572, Ar572, q572, S572, Nn572, H572, G572⟩ := id V571
  obtain ⟨T573, h573, X573, e573, W573, st573⟩ := stC X571 hx hZ e571 Ar572 (j := (10 : Int32)) (inb_of S572 ⟨by decide, by decide⟩) (g := (mkF m 293 #[vI p1, vI p2, vI p3, vI p4, vI p5, vI c5, vI c6, vI c7, vI c8, vI c9, vI c10, vI 1, vR b423, vR b445, vR x468, vR x470, vR b472, .unset, .unset, .unset, .unset, .unset, .unset] [(.int c10), (.int 10), (.ref b551), (.ref b551), (.ref b550), (.ref b550)])) rfl rfl (hb hby at_293)
  rw [own_nc (own_c255 rc10)] at W573
  have V573 : Arv Z h573 b551 k551 .char (11 : Int32) [(.int 101), (.int 114), (.int 114), (.int 111), (.int 114), (.int 91), (.int c9), (.int 93), (.int 58), (.int 32), (.int c10)] (.int 0) := Arv.set Ar572 q572 S572 Nn572 H572 G572 (own_fitc (own_c255 rc10)) W573 10 rfl (Nat.le_of_ble_eq_true rfl)
  have K573 := Keep.of_wr W573
  have N573 := Fr.snoc X573 N571 (by omega : @LE.le Nat _ n0 b551)
  have hs41_K573 : ∀ zz ∈ ([b551] : List Addr), Safe Z EL1 s.vm h571 zz := sfS (Safe.arv hZ.alike V571 (by decide)) (sf0)
  have cR41_K573 := cR40_K571.trans (CHr.keep K573 hs41_K573 cR40_K571.1)
  have sz41_K573 := K573.1
  have hL575 : ∀ c ∈ ([(101 : Int32), (114 : Int32), (114 : Int32), (111 : Int32), (114 : Int32), (91 : Int32), c9, (93 : Int32), (58 : Int32), (32 : Int32), c10] : List Int32), ¬ c < 0 ∧ ¬ (255 : Int32) < c := by intro c hc; simp only [List.mem_cons, List.not_mem_nil, or_false] at hc; rcases hc with rfl | rfl | rfl | rfl | rfl | rfl | rfl | rfl | rfl | rfl | rfl <;> first | decide | exact rc9 | exact rc10
  have KD576 : Keep h550 h553 [] := ((Keep.refl _ _).trans K551 (all0)).trans K553 (allS (Or.inr (by omega)) (all0))
  have KD577 : Keep h550 h555 [] := ((Keep.refl _ _).trans KD576 (all0)).trans K555 (allS (Or.inr (by omega)) (all0))
  have KD578 : Keep h550 h557 [] := ((Keep.refl _ _).trans KD577 (all0)).trans K557 (allS (Or.inr (by omega)) (all0))
  have KD579 : Keep h550 h559 [] := ((Keep.refl _ _).trans KD578 (all0)).trans K559 (allS (Or.inr (by omega)) (all0))
  have KD580 : Keep h550 h561 [] := ((Keep.refl _ _).trans KD579 (all0)).trans K561 (allS (Or.inr (by omega)) (all0))
  have KD581 : Keep h550 h563 [] := ((Keep.refl _ _).trans KD580 (all0)).trans K563 (allS (Or.inr (by omega)) (all0))
  have KD582 : Keep h550 h565 [] := ((Keep.refl _ _).trans KD581 (all0)).trans K565 (allS (Or.inr (by omega)) (all0))
  have KD583 : Keep h550 h567 [] := ((Keep.refl _ _).trans KD582 (all0)).trans K567 (allS (Or.inr (by omega)) (all0))
  have KD584 : Keep h550 h569 [] := ((Keep.refl _ _).trans KD583 (all0)).trans K569 (allS (Or.inr (by omega)) (all0))
  have KD585 : Keep h550 h571 [] := ((Keep.refl _ _).trans KD584 (all0)).trans K571 (allS (Or.inr (by omega)) (all0))
  have KD586 : Keep h550 h573 [] := ((Keep.refl _ _).trans KD585 (all0)).trans K573 (allS (Or.inr (by omega)) (all0))
  have C587 := A550.keep KD586
  have C588 := F550_value.keep KD586 nin0
  have C589 := F550_coder.keep KD586 nin0
  have O590 : Old Z n0 T500.heap := O533.keep K500 (allS (by omega) (all0))
  have O591 : Old Z n0 h550 := O590.keep K550 all0
  have O592 : Old Z n0 h551 := O591.keep K551 all0
  have O593 : Old Z n0 h553 := O592.keep K553 (allS (by omega) (all0))
  have O594 : Old Z n0 h555 := O593.keep K555 (allS (by omega) (all0))
  have O595 : Old Z n0 h557 := O594.keep K557 (allS (by omega) (all0))
  have O596 : Old Z n0 h559 := O595.keep K559 (allS (by omega) (all0))
  have O597 : Old Z n0 h561 := O596.keep K561 (allS (by omega) (all0))
  have O598 : Old Z n0 h563 := O597.keep K563 (allS (by omega) (all0))
  have O599 : Old Z n0 h565 := O598.keep K565 (allS (by omega) (all0))
  have O600 : Old Z n0 h567 := O599.keep K567 (allS (by omega) (all0))
  have O601 : Old Z n0 h569 := O600.keep K569 (allS (by omega) (all0))
  have O602 : Old Z n0 h571 := O601.keep K571 (allS (by omega) (all0))
  have O603 : Old Z n0 h573 := O602.keep K573 (allS (by omega) (all0))
  obtain ⟨_, _, ⟨T574, L574, k574, n574⟩, -, X574, ⟨Lc574, hQ574, l574, y574, z574⟩, st574⟩ := X573.specialBack hx (y := mN56) rfl hown (mvT hZ (tw hw 4 rfl)) (mvT hZ (tw hw 5 rfl)) (mvT hZ (tw hw 6 rfl)) (by decide) (StrChars.Road.backV (W := 1) hZ hws (kI := 4) (tw hw 1 rfl) (cs := ([(101 : Int32), (114 : Int32), (114 : Int32), (111 : Int32), (114 : Int32), (91 : Int32), c9, (93 : Int32), (58 : Int32), (32 : Int32), c10] : List Int32)) (bs := ([(101 : Int32), (114 : Int32), (114 : Int32), (111 : Int32), (114 : Int32), (91 : Int32), c9, (93 : Int32), (58 : Int32), (32 : Int32), c10] : List Int32).map (fun c => c.toInt8.toInt32)) (n := 11) (by omega : @LE.le Nat _ n0 b550) (by omega) C587 C588 C589 V573 (Sta.ext O603.2 S_CS) c_CS rfl rfl (by decide) (by decide) hL575 rfl (by decide) (by decide)) (g := (mkF m 294 #[vI p1, vI p2, vI p3, vI p4, vI p5, vI c5, vI c6, vI c7, vI c8, vI c9, vI c10, vI 1, vR b423, vR b445, vR x468, vR x470, vR b472, .unset, .unset, .unset, .unset, .unset, .unset] [(.ref b551), (.ref b550), (.ref b550)])) rfl (by rw [hml]; rfl) (Steps.refl _) (a := b550) (argsL := [(.ref b551)]) (rest := [(.ref b550)]) (lenOf pd_0 rfl) rfl (wL _) (hb hby at_294) (fun _ _ => ⟨rfl, e573, (by decide : 15 + 1 ≤ _), (by decide : 71 + 11 ≤ _)⟩)
  dsimp only [Pt.U, Pt.locs, Pt.cells, Pt.slots] at X574 l574 y574 z574 st574 hQ574
  rw [l574] at X574
  subst y574 z574
  obtain ⟨rfl, N574q, K574, E574, C574, t574, kb574, ge574, gh574, tx574, Vf574, Av574⟩ := hQ574
  have lt574 : @LT.lt Nat _ t574 T574.heap.size := Av574.lt
  have Sf604 : Safe Z EL1 s.vm T500.heap b550 := Safe.new (by omega)
  have Sf605 := Safe.keep K550 sf0 cR28_K500.1 Sf604
  have Sf606 := Safe.keep K551 sf0 cR29_K550.1 Sf605
  have Sf607 := Safe.keep K553 hs31_K553 cR30_K551.1 Sf606
  have Sf608 := Safe.keep K555 hs32_K555 cR31_K553.1 Sf607
  have Sf609 := Safe.keep K557 hs33_K557 cR32_K555.1 Sf608
  have Sf610 := Safe.keep K559 hs34_K559 cR33_K557.1 Sf609
  have Sf611 := Safe.keep K561 hs35_K561 cR34_K559.1 Sf610
  have Sf612 := Safe.keep K563 hs36_K563 cR35_K561.1 Sf611
  have Sf613 := Safe.keep K565 hs37_K565 cR36_K563.1 Sf612
  have Sf614 := Safe.keep K567 hs38_K567 cR37_K565.1 Sf613
  have Sf615 := Safe.keep K569 hs39_K569 cR38_K567.1 Sf614
  have Sf616 := Safe.keep K571 hs40_K571 cR39_K569.1 Sf615
  have Sf617 := Safe.keep K573 hs41_K573 cR40_K571.1 Sf616
  have hs42_K574 : ∀ zz ∈ ([b550] : List Addr), Safe Z EL1 s.vm h573 zz := sfS Sf617 (sf0)
  have cR42_K574 := cR41_K573.trans (CHr.keep K574 hs42_K574 cR41_K573.1)
  have sz42_K574 := K574.1
  have gt574_ : @Ne Nat t574 b550 := tx574
  have N574 := Fr.app N573 N574q
  obtain ⟨T618, h618, X618, e618, E618, A618, D618, -, st618⟩ := newO X574 hx hZ hown (tw hw 47 rfl) (tw hw 48 rfl) (tw hw 49 rfl) rfl (g := (mkF m 367 #[vI p1, vI p2, vI p3, vI p4, vI p5, vI c5, vI c6, vI c7, vI c8, vI c9, vI c10, vI 1, vR b423, vR b445, vR x468, vR x470, vR b472, vR b550, .unset, .unset, .unset, .unset, .unset] [])) rfl (hb hby at_367) (by decide) (by decide)
  obtain ⟨b618, g618⟩ : ∃ z, z = T574.heap.size := ⟨_, rfl⟩
  rw [← g618] at A618 D618 st618
  have lt618 : @LT.lt Nat _ b618 h618.size := A618.lt
  have K618 : Keep T574.heap h618 [] := (Keep.refl _ _).ext E618
  have cR43_K618 := cR42_K574.trans (CHr.keep K618 sf0 cR42_K574.1)
  have sz43_K618 := K618.1
  have F618_lines : Fld Z h618 b618 "com/example/nroute/nroute/route/Mistakes" "lines" "Ljava/util/List;" .null := D618 (Or.inr (tw hw 79 rfl)) (ty := (.object "java/util/List")) (by decide)
  have O620 : Old Z n0 T574.heap := O603.keep K574 (allS (by omega) (all0))
  have O621 : Old Z n0 h618 := O620.keep K618 all0
  obtain ⟨_, _, ⟨T619, L619, k619, n619⟩, -, X619, ⟨Lc619, hQ619, l619, y619, z619⟩, st619⟩ := X618.specialBack hx (y := mN27) rfl hown (mvT hZ (tw hw 50 rfl)) (mvT hZ (tw hw 51 rfl)) (mvT hZ (tw hw 52 rfl)) (by decide) (backOf (W := 1) (rmMi l Z a0 hw [] b618 dd kD h618 n0 O621 S_DC V_DC (by omega : @LE.le Nat _ n0 b618) A618 F618_lines) hZ (tw hw 52 rfl) (tw hw 49 rfl) (by decide) (by decide)) (g := (mkF m 371 #[vI p1, vI p2, vI p3, vI p4, vI p5, vI c5, vI c6, vI c7, vI c8, vI c9, vI c10, vI 1, vR b423, vR b445, vR x468, vR x470, vR b472, vR b550, .unset, .unset, .unset, .unset, .unset] [(.ref b618), (.ref b618)])) rfl (by rw [hml]; rfl) (Steps.refl _) (a := b618) (argsL := []) (rest := [(.ref b618)]) (lenOf pd_2 rfl) rfl (wL _) (hb hby at_371) (fun _ _ => ⟨rfl, e618, (by decide : 17 + 1 ≤ _), (by decide : 83 + 3 ≤ _)⟩)
  dsimp only [Pt.U, Pt.locs, Pt.cells, Pt.slots] at X619 l619 y619 z619 st619 hQ619
  rw [l619] at X619
  subst y619 z619
  obtain ⟨x619, rfl, N619q, K619, gx619, Em619, Ml619, El619, Ld619, Ln619, Lm619⟩ := hQ619
  have ltx619 : @LT.lt Nat _ x619 T619.heap.size := El619.lt
  have hs44_K619 : ∀ zz ∈ ([b618] : List Addr), Safe Z EL1 s.vm h618 zz := sfS (Safe.exa hZ.alike A618 (by decide) (by decide)) (sf0)
  have cR44_K619 := cR43_K618.trans (CHr.keep K619 hs44_K619 cR43_K618.1)
  have sz44_K619 := K619.1
  have N619 := Fr.app N574 N619q
  have O623 : Old Z n0 T619.heap := O621.keep K619 (allS (by omega) (all0))
  obtain ⟨cq622, kq622, q622a, q622b, q622c⟩ := isOf hZ rfl Em619
  obtain ⟨_, _, ⟨T622, L622, k622, n622⟩, -, X622, ⟨Lc622, hQ622, l622, y622, z622⟩, st622⟩ := X619.virtualBack hx (y := mN29) (z := mN29) hown (mvT hZ (tw hw 80 rfl)) (mvT hZ (tw hw 81 rfl)) (notFace_of_selects (args := #[]) (mvT hZ (tw hw 83 rfl))) (mvT hZ (tw hw 83 rfl)) (mvT hZ (tw hw 82 rfl)) (by decide) (backOf (W := 0) (rmMie0 l Z a0 hw [] b618 x619 T619.heap n0 O623 Em619 Ml619 El619 Ln619) hZ (tw hw 84 rfl) (tw hw 49 rfl) (by decide) (by decide)) q622a q622c (g := (mkF m 378 #[vI p1, vI p2, vI p3, vI p4, vI p5, vI c5, vI c6, vI c7, vI c8, vI c9, vI c10, vI 1, vR b423, vR b445, vR x468, vR x470, vR b472, vR b550, vR b618, .unset, .unset, .unset, .unset] [(.ref b618)])) rfl (by rw [hml]; rfl) (Steps.refl _) (argsL := []) (rest := []) (lenOf pd_10 rfl) rfl (wL _) (hb hby at_378) (fun _ _ => ⟨rfl, rfl, (by decide : 18 + 0 ≤ _), (by decide : 86 + 0 ≤ _)⟩)
  dsimp only [Pt.U, Pt.locs, Pt.cells, Pt.slots] at X622 l622 y622 z622 st622 hQ622
  rw [l622] at X622
  subst y622 z622
  obtain ⟨rfl, N622q, H622⟩ := hQ622
  have N622 := Fr.app N619 N622q
  obtain ⟨cq624, kq624, q624a, q624b, q624c⟩ := isOf hZ H622 Em619
  obtain ⟨_, _, ⟨T624, L624, k624, n624⟩, -, X624, ⟨Lc624, hQ624, l624, y624, z624⟩, st624⟩ := X622.virtualBack hx (y := mN35) (z := mN35) hown (mvT hZ (tw hw 96 rfl)) (mvT hZ (tw hw 97 rfl)) (notFace_of_selects (args := #[]) (mvT hZ (tw hw 99 rfl))) (mvT hZ (tw hw 99 rfl)) (mvT hZ (tw hw 98 rfl)) (by decide) (backOf (W := 0) (rmLi0 l Z a0 hw [] b618 el x619 T619.heap n0 O623 S_EL Em619 Ml619 El619 Ln619) hZ (tw hw 100 rfl) (tw hw 49 rfl) (by decide) (by decide)) q624a q624c (g := (mkF m 385 #[vI p1, vI p2, vI p3, vI p4, vI p5, vI c5, vI c6, vI c7, vI c8, vI c9, vI c10, vI 1, vR b423, vR b445, vR x468, vR x470, vR b472, vR b550, vR b618, vI 1, .unset, .unset, .unset] [(.ref b618)])) rfl (by rw [hml]; rfl) (Steps.refl _) (argsL := []) (rest := []) (lenOf pd_11 rfl) rfl (wL _) (hb hby at_385) (fun _ _ => ⟨rfl, H622, (by decide : 18 + 0 ≤ _), (by decide : 86 + 0 ≤ _)⟩)
  dsimp only [Pt.U, Pt.locs, Pt.cells, Pt.slots] at X624 l624 y624 z624 st624 hQ624
  rw [l624] at X624
  subst y624 z624
  obtain ⟨rfl, N624q, H624⟩ := hQ624
  have N624 := Fr.app N622 N624q
  have KD626 : Keep h0 h428 [] := ((Keep.refl _ _).trans K423 (all0)).trans KD432 (all0)
  have KD627 : Keep h0 T429.heap [] := ((Keep.refl _ _).trans KD626 (all0)).trans K429 (allS (Or.inr (by omega)) (all0))
  have KD628 : Keep h0 h445 [] := ((Keep.refl _ _).trans KD627 (all0)).trans K445 (all0)
  have KD629 : Keep h0 h450 [] := ((Keep.refl _ _).trans KD628 (all0)).trans KD454 (all0)
  have KD630 : Keep h0 T451.heap [] := ((Keep.refl _ _).trans KD629 (all0)).trans K451 (allS (Or.inr (by omega)) (all0))
  have KD631 : Keep h0 T468.heap [] := ((Keep.refl _ _).trans KD630 (all0)).trans K468 (all0)
  have KD632 : Keep h0 T470.heap [] := ((Keep.refl _ _).trans KD631 (all0)).trans K470 (all0)
  have KD633 : Keep h0 h472 [] := ((Keep.refl _ _).trans KD632 (all0)).trans K472 (all0)
  have KD634 : Keep h0 h499 [] := ((Keep.refl _ _).trans KD633 (all0)).trans KD514 (all0)
  have KD635 : Keep h0 T500.heap [] := ((Keep.refl _ _).trans KD634 (all0)).trans K500 (allS (Or.inr (by omega)) (all0))
  have KD636 : Keep h0 h550 [] := ((Keep.refl _ _).trans KD635 (all0)).trans K550 (all0)
  have KD637 : Keep h0 h573 [] := ((Keep.refl _ _).trans KD636 (all0)).trans KD586 (all0)
  have KD638 : Keep h0 T574.heap [] := ((Keep.refl _ _).trans KD637 (all0)).trans K574 (allS (Or.inr (by omega)) (all0))
  have KD639 : Keep T574.heap T619.heap [] := ((Keep.refl _ _).trans K618 (all0)).trans K619 (allS (Or.inr (by omega)) (all0))
  have KD640 : Keep h0 T619.heap [] := ((Keep.refl _ _).trans KD638 (all0)).trans KD639 (all0)
  have C641 := E_el.keep KD640
  have C642 := F_el.keep KD640 nin0
  have C643 := V_el.keep KD640 nin0
  obtain ⟨cq625, kq625, q625a, q625b, q625c⟩ := isOf hZ H624 C641
  obtain ⟨_, _, ⟨T625, L625, k625, n625⟩, -, X625, ⟨Lc625, hQ625, l625, y625, z625⟩, st625⟩ := X624.interfaceBack hx (xi := mN57) (y := mN36) hown (mvT hZ (tw hw 124 rfl)) (mvT hZ (tw hw 125 rfl)) (mvT hZ (tw hw 126 rfl)) (mvT hZ (tw hw 127 rfl)) (mvT hZ (tw hw 128 rfl)) (mvT hZ (tw hw 129 rfl)) (mvT hZ (tw hw 130 rfl)) (mvT hZ (tw hw 131 rfl)) (by decide) (backOf (W := 0) (rmNsz l Z a0 hw [] el ea kE T619.heap n0 O623 C641 C642 C643) hZ (tw hw 133 rfl) (tw hw 132 rfl) (by decide) (by decide)) q625a q625b q625c (g := (mkF m 397 #[vI p1, vI p2, vI p3, vI p4, vI p5, vI c5, vI c6, vI c7, vI c8, vI c9, vI c10, vI 1, vR b423, vR b445, vR x468, vR x470, vR b472, vR b550, vR b618, vI 1, vR el, .unset, .unset] [(.ref el)])) rfl (by rw [hml]; rfl) (Steps.refl _) (argsL := []) (rest := []) (lenOf pd_13 rfl) rfl (wL _) (hb hby at_397) (fun _ _ => ⟨rfl, H624, (by decide : 18 + 0 ≤ _), (by decide : 86 + 0 ≤ _)⟩)
  dsimp only [Pt.U, Pt.locs, Pt.cells, Pt.slots] at X625 l625 y625 z625 st625 hQ625
  rw [l625] at X625
  subst y625 z625
  obtain ⟨rfl, N625q, H625⟩ := hQ625
  have N625 := Fr.app N624 N625q
  have KD645 : Keep T429.heap h450 [] := ((Keep.refl _ _).trans K445 (all0)).trans KD454 (all0)
  have KD646 : Keep T429.heap T451.heap [] := ((Keep.refl _ _).trans KD645 (all0)).trans K451 (allS (Or.inr (by omega)) (all0))
  have KD647 : Keep T429.heap T468.heap [] := ((Keep.refl _ _).trans KD646 (all0)).trans K468 (all0)
  have KD648 : Keep T429.heap T470.heap [] := ((Keep.refl _ _).trans KD647 (all0)).trans K470 (all0)
  have KD649 : Keep T429.heap h472 [] := ((Keep.refl _ _).trans KD648 (all0)).trans K472 (all0)
  have KD650 : Keep T429.heap h499 [] := ((Keep.refl _ _).trans KD649 (all0)).trans KD514 (all0)
  have KD651 : Keep T429.heap T500.heap [] := ((Keep.refl _ _).trans KD650 (all0)).trans K500 (allS (Or.inr (by omega)) (all0))
  have KD652 : Keep T429.heap h550 [] := ((Keep.refl _ _).trans KD651 (all0)).trans K550 (all0)
  have KD653 : Keep T429.heap h573 [] := ((Keep.refl _ _).trans KD652 (all0)).trans KD586 (all0)
  have KD654 : Keep T429.heap T574.heap [] := ((Keep.refl _ _).trans KD653 (all0)).trans K574 (allS (Or.inr (by omega)) (all0))
  have KD655 : Keep T429.heap T619.heap [] := ((Keep.refl _ _).trans KD654 (all0)).trans KD639 (all0)
  have C656 := E429.keep KD655
  have C657 := Vf429.keep KD655 nin0
  have C658 := C429.keep KD655 nin0
  have C659 := Av429.keep KD655 nin0
  have KD660 : Keep T451.heap T470.heap [] := ((Keep.refl _ _).trans K468 (all0)).trans K470 (all0)
  have KD661 : Keep T451.heap h472 [] := ((Keep.refl _ _).trans KD660 (all0)).trans K472 (all0)
  have KD662 : Keep T451.heap h499 [] := ((Keep.refl _ _).trans KD661 (all0)).trans KD514 (all0)
  have KD663 : Keep T451.heap T500.heap [] := ((Keep.refl _ _).trans KD662 (all0)).trans K500 (allS (Or.inr (by omega)) (all0))
  have KD664 : Keep T451.heap h550 [] := ((Keep.refl _ _).trans KD663 (all0)).trans K550 (all0)
  have KD665 : Keep T451.heap h573 [] := ((Keep.refl _ _).trans KD664 (all0)).trans KD586 (all0)
  have KD666 : Keep T451.heap T574.heap [] := ((Keep.refl _ _).trans KD665 (all0)).trans K574 (allS (Or.inr (by omega)) (all0))
  have KD667 : Keep T451.heap T619.heap [] := ((Keep.refl _ _).trans KD666 (all0)).trans KD639 (all0)
  have C668 := E451.keep KD667
  have C669 := Vf451.keep KD667 nin0
  have C670 := C451.keep KD667 nin0
  have C671 := Av451.keep KD667 nin0
  obtain ⟨cq644, kq644, q644a, q644b, q644c⟩ := isOf hZ H625 Em619
  obtain ⟨_, _, ⟨T644, L644, k644, n644⟩, -, X644q, hSq644, hgr644, ⟨Lc644, hQ644, l644, y644, z644, cr644⟩, st644⟩ := X625.virtualBackS hx (y := mN41) (z := mN41) hown (mvT hZ (tw hw 136 rfl)) (mvT hZ (tw hw 137 rfl)) (notFace_of_selects (args := #[]) (mvT hZ (tw hw 139 rfl))) (mvT hZ (tw hw 139 rfl)) (mvT hZ (tw hw 138 rfl)) (by decide) (backOfSH (s := s) (vm0 := s.vm) (EL := EL1) (W := 0) (rmMadd0 l Z a0 hw [] b618 b423 b445 cs0 (lat ([c5, c6] : List Int32)) (lat ([c7, c8] : List Int32)) t429 t451 kb429 kb451 x619 dd kD T619.heap n0 O623 S_CS c_CS S_DC V_DC (by omega : @LE.le Nat _ n0 x619) (by simp) Em619 Ml619 El619 Ld619 Ln619 Lm619 C656 C657 C658 C659 C668 C669 C670 C671) hZ (tw hw 140 rfl) (tw hw 49 rfl) (by decide) (by decide) hEW cR44_K619.1) q644a q644c (g := (mkF m 413 #[vI p1, vI p2, vI p3, vI p4, vI p5, vI c5, vI c6, vI c7, vI c8, vI c9, vI c10, vI 1, vR b423, vR b445, vR x468, vR x470, vR b472, vR b550, vR b618, vI 1, vR el, .unset, .unset] [(.ref b445), (.ref b423), (.ref b618)])) rfl (by rw [hml]; rfl) (Steps.refl _) (argsL := [(.ref b423), (.ref b445)]) (rest := []) (lenOf pd_14 rfl) rfl (wL _) (hb hby at_413) (fun _ _ => ⟨rfl, H625, (by decide : 18 + 9 ≤ _), (by decide : 86 + 94 ≤ _)⟩)
  dsimp only [Pt.U, Pt.locs, Pt.cells, Pt.slots] at X644q l644 y644 z644 st644 hQ644 hSq644 hgr644 cr644
  rw [l644] at X644q
  subst y644 z644
  obtain ⟨X644, hS644, hZ644, hown644⟩ := rebS (s := s) (vm0 := s.vm) hS0 (by rw [H625]; omega) X644q hSq644 hgr644 hZ hown
  obtain ⟨y644, t644, d644, kb644, kd644, rfl, N644q, K644, gy644, gt644, gd644, yd644, td644, ty644, Es644, Sv644, Sc644, Vs644, El644, Ld644, Ln644, Lm644, Ea644, Va644, Oa644⟩ := hQ644
  have lty644 : @LT.lt Nat _ y644 T644.heap.size := Es644.lt
  have ltt644 : @LT.lt Nat _ t644 T644.heap.size := Vs644.lt
  have ltd644 : @LT.lt Nat _ d644 T644.heap.size := Va644.lt
  have cR45_K644 := cR44_K619.trans cr644
  have sz45_K644 := K644.1
  have N644 := Fr.app N625 N644q
  have C673 := Em619.keep K644
  have C674 := Ml619.keep K644 (ninS (by omega : @Ne Nat b618 x619) (nin0))
  have O675 : Old Z n0 T644.heap := O623.keep K644 (allS (by omega) (all0))
  obtain ⟨cq672, kq672, q672a, q672b, q672c⟩ := isOf hZ644 rfl C673
  obtain ⟨_, _, ⟨T672, L672, k672, n672⟩, -, X672, ⟨Lc672, hQ672, l672, y672, z672⟩, st672⟩ := X644.virtualBack hx (y := mN29) (z := mN29) hown644 (mvT hZ644 (tw hw 80 rfl)) (mvT hZ644 (tw hw 81 rfl)) (notFace_of_selects (args := #[]) (mvT hZ644 (tw hw 83 rfl))) (mvT hZ644 (tw hw 83 rfl)) (mvT hZ644 (tw hw 82 rfl)) (by decide) (backOf (W := 0) (rmMie1 l Z a0 hw [] b618 x619 T644.heap n0 O675 C673 C674 El644 Ln644) hZ644 (tw hw 84 rfl) (tw hw 49 rfl) (by decide) (by decide)) q672a q672c (g := (mkF m 418 #[vI p1, vI p2, vI p3, vI p4, vI p5, vI c5, vI c6, vI c7, vI c8, vI c9, vI c10, vI 1, vR b423, vR b445, vR x468, vR x470, vR b472, vR b550, vR b618, vI 1, vR el, .unset, .unset] [(.ref b618)])) rfl (by rw [hml]; rfl) (Steps.refl _) (argsL := []) (rest := []) (lenOf pd_10 rfl) rfl (wL _) (hb hby at_418) (fun _ _ => ⟨rfl, rfl, (by decide : 27 + 0 ≤ _), (by decide : 180 + 0 ≤ _)⟩)
  dsimp only [Pt.U, Pt.locs, Pt.cells, Pt.slots] at X672 l672 y672 z672 st672 hQ672
  rw [l672] at X672
  subst y672 z672
  obtain ⟨rfl, N672q, H672⟩ := hQ672
  have N672 := Fr.app N644 N672q
  have KD677 : Keep T468.heap h472 [] := ((Keep.refl _ _).trans K470 (all0)).trans K472 (all0)
  have KD678 : Keep T468.heap h499 [] := ((Keep.refl _ _).trans KD677 (all0)).trans KD514 (all0)
  have KD679 : Keep T468.heap T500.heap [] := ((Keep.refl _ _).trans KD678 (all0)).trans K500 (allS (Or.inr (by omega)) (all0))
  have KD680 : Keep T468.heap h550 [] := ((Keep.refl _ _).trans KD679 (all0)).trans K550 (all0)
  have KD681 : Keep T468.heap h573 [] := ((Keep.refl _ _).trans KD680 (all0)).trans KD586 (all0)
  have KD682 : Keep T468.heap T574.heap [] := ((Keep.refl _ _).trans KD681 (all0)).trans K574 (allS (Or.inr (by omega)) (all0))
  have KD683 : Keep T468.heap T619.heap [] := ((Keep.refl _ _).trans KD682 (all0)).trans KD639 (all0)
  have KD684 : Keep T468.heap T644.heap [] := ((Keep.refl _ _).trans KD683 (all0)).trans K644 (allS (Or.inr (by omega)) (all0))
  have C685 := E468.keep KD684
  have C686 := F468.keep KD684 nin0
  have C687 := C468.keep KD684 nin0
  have C688 := V468.keep KD684 nin0
  have KD689 : Keep T470.heap h499 [] := ((Keep.refl _ _).trans K472 (all0)).trans KD514 (all0)
  have KD690 : Keep T470.heap T500.heap [] := ((Keep.refl _ _).trans KD689 (all0)).trans K500 (allS (Or.inr (by omega)) (all0))
  have KD691 : Keep T470.heap h550 [] := ((Keep.refl _ _).trans KD690 (all0)).trans K550 (all0)
  have KD692 : Keep T470.heap h573 [] := ((Keep.refl _ _).trans KD691 (all0)).trans KD586 (all0)
  have KD693 : Keep T470.heap T574.heap [] := ((Keep.refl _ _).trans KD692 (all0)).trans K574 (allS (Or.inr (by omega)) (all0))
  have KD694 : Keep T470.heap T619.heap [] := ((Keep.refl _ _).trans KD693 (all0)).trans KD639 (all0)
  have KD695 : Keep T470.heap T644.heap [] := ((Keep.refl _ _).trans KD694 (all0)).trans K644 (allS (Or.inr (by omega)) (all0))
  have C696 := E470.keep KD695
  have C697 := F470.keep KD695 nin0
  have C698 := C470.keep KD695 nin0
  have C699 := V470.keep KD695 nin0
  obtain ⟨cq676, kq676, q676a, q676b, q676c⟩ := isOf hZ644 H672 C673
  obtain ⟨_, _, ⟨T676, L676, k676, n676⟩, -, X676q, hSq676, hgr676, ⟨Lc676, hQ676, l676, y676, z676, cr676⟩, st676⟩ := X672.virtualBackS hx (y := mN41) (z := mN41) hown644 (mvT hZ644 (tw hw 136 rfl)) (mvT hZ644 (tw hw 137 rfl)) (notFace_of_selects (args := #[]) (mvT hZ644 (tw hw 139 rfl))) (mvT hZ644 (tw hw 139 rfl)) (mvT hZ644 (tw hw 138 rfl)) (by decide) (backOfSH (s := s) (vm0 := T644.vm) (EL := EL1) (W := 0) (rmMadd1 l Z a0 hw [] b618 x468 x470 cs0 ([c9.toInt8.toInt32] : List Int32) ([c10.toInt8.toInt32] : List Int32) t468 t470 kb468 kb470 x619 d644 y644 kd644 T644.heap n0 O675 S_CS c_CS (by omega : @LE.le Nat _ n0 x619) (by simp) (by omega : @LE.le Nat _ n0 d644) (by omega) C673 C674 El644 Ld644 Ln644 Lm644 Ea644 Va644 Oa644 C685 C686 C687 C688 C696 C697 C698 C699) hZ644 (tw hw 140 rfl) (tw hw 49 rfl) (by decide) (by decide) hEW cR45_K644.1) q676a q676c (g := (mkF m 436 #[vI p1, vI p2, vI p3, vI p4, vI p5, vI c5, vI c6, vI c7, vI c8, vI c9, vI c10, vI 1, vR b423, vR b445, vR x468, vR x470, vR b472, vR b550, vR b618, vI 1, vR el, vI 0, .unset] [(.ref x470), (.ref x468), (.ref b618)])) rfl (by rw [hml]; rfl) (Steps.refl _) (argsL := [(.ref x468), (.ref x470)]) (rest := []) (lenOf pd_14 rfl) rfl (wL _) (hb hby at_436) (fun _ _ => ⟨rfl, H672, (by decide : 27 + 9 ≤ _), (by decide : 180 + 94 ≤ _)⟩)
  dsimp only [Pt.U, Pt.locs, Pt.cells, Pt.slots] at X676q l676 y676 z676 st676 hQ676 hSq676 hgr676 cr676
  rw [l676] at X676q
  subst y676 z676
  obtain ⟨X676, hS676, hZ676, hown676⟩ := rebS (s := s) (vm0 := T644.vm) hS644 (by rw [H672]; omega) X676q hSq676 hgr676 hZ644 hown644
  obtain ⟨y676, t676, kb676, rfl, N676q, K676, gy676, gt676, ty676, Es676, Sv676, Sc676, Vs676, El676, Ld676, Ln676, Lm676, Ea676, Va676, Oa676⟩ := hQ676
  have lty676 : @LT.lt Nat _ y676 T676.heap.size := Es676.lt
  have ltt676 : @LT.lt Nat _ t676 T676.heap.size := Vs676.lt
  have ltd676 : @LT.lt Nat _ d644 T676.heap.size := Va676.lt
  have cR46_K676 := cR45_K644.trans cr676
  have sz46_K676 := K676.1
  have N676 := Fr.app N672 N676q
  have C701 := C673.keep K676
  have C702 := C674.keep K676 (ninS (by omega : @Ne Nat b618 x619) (ninS (by omega : @Ne Nat b618 d644) (nin0)))
  have C703 := Es644.keep K676
  have O704 : Old Z n0 T676.heap := O675.keep K676 (allS (by omega) (allS (by omega) (all0)))
  obtain ⟨cq700, kq700, q700a, q700b, q700c⟩ := isOf hZ676 rfl C701
  obtain ⟨_, _, ⟨T700, L700, k700, n700⟩, -, X700, ⟨Lc700, hQ700, l700, y700, z700⟩, st700⟩ := X676.virtualBack hx (y := mN35) (z := mN35) hown676 (mvT hZ676 (tw hw 96 rfl)) (mvT hZ676 (tw hw 97 rfl)) (notFace_of_selects (args := #[]) (mvT hZ676 (tw hw 99 rfl))) (mvT hZ676 (tw hw 99 rfl)) (mvT hZ676 (tw hw 98 rfl)) (by decide) (backOf (W := 0) (rmLi2 l Z a0 hw [] b618 x619 d644 y644 y676 mr kd644 T676.heap n0 O704 MR C701 C702 El676 Ld676 Ln676 Ea676 Va676 Oa676 C703 Es676) hZ676 (tw hw 100 rfl) (tw hw 49 rfl) (by decide) (by decide)) q700a q700c (g := (mkF m 441 #[vI p1, vI p2, vI p3, vI p4, vI p5, vI c5, vI c6, vI c7, vI c8, vI c9, vI c10, vI 1, vR b423, vR b445, vR x468, vR x470, vR b472, vR b550, vR b618, vI 1, vR el, vI 0, .unset] [(.ref b618)])) rfl (by rw [hml]; rfl) (Steps.refl _) (argsL := []) (rest := []) (lenOf pd_11 rfl) rfl (wL _) (hb hby at_441) (fun _ _ => ⟨rfl, rfl, (by decide : 36 + 2 ≤ _), (by decide : 274 + 4 ≤ _)⟩)
  dsimp only [Pt.U, Pt.locs, Pt.cells, Pt.slots] at X700 l700 y700 z700 st700 hQ700
  rw [l700] at X700
  subst y700 z700
  obtain ⟨x700, rfl, N700q, K700, gx700, Et700, Ta700, Tb700⟩ := hQ700
  have ltx700 : @LT.lt Nat _ x700 T700.heap.size := Et700.lt
  have cR47_K700 := cR46_K676.trans (CHr.keep K700 sf0 cR46_K676.1)
  have sz47_K700 := K700.1
  have N700 := Fr.app N676 N700q
  have O706 : Old Z n0 T700.heap := O704.keep K700 all0
  obtain ⟨cq705, kq705, q705a, q705b, q705c⟩ := isOf hZ676 rfl Et700
  obtain ⟨_, _, ⟨T705, L705, k705, n705⟩, -, X705, ⟨Lc705, hQ705, l705, y705, z705⟩, st705⟩ := X700.interfaceBack hx (xi := mN57) (y := mN50) hown676 (mvT hZ676 (tw hw 124 rfl)) (mvT hZ676 (tw hw 125 rfl)) (mvT hZ676 (tw hw 126 rfl)) (mvT hZ676 (tw hw 338 rfl)) (mvT hZ676 (tw hw 339 rfl)) (mvT hZ676 (tw hw 340 rfl)) (mvT hZ676 (tw hw 341 rfl)) (mvT hZ676 (tw hw 342 rfl)) (by decide) (backOf (W := 0) (rmSz2 l Z a0 hw [] x700 y644 y676 em T700.heap n0 O706 S_EM hem (by omega : @LE.le Nat _ n0 y676) Et700 Ta700 Tb700) hZ676 (tw hw 343 rfl) (tw hw 311 rfl) (by decide) (by decide)) q705a q705b q705c (g := (mkF m 448 #[vI p1, vI p2, vI p3, vI p4, vI p5, vI c5, vI c6, vI c7, vI c8, vI c9, vI c10, vI 1, vR b423, vR b445, vR x468, vR x470, vR b472, vR b550, vR b618, vI 1, vR el, vI 0, vR x700] [(.ref x700)])) rfl (by rw [hml]; rfl) (Steps.refl _) (argsL := []) (rest := []) (lenOf pd_13 rfl) rfl (wL _) (hb hby at_448) (fun _ _ => ⟨rfl, rfl, (by decide : 38 + 0 ≤ _), (by decide : 278 + 0 ≤ _)⟩)
  dsimp only [Pt.U, Pt.locs, Pt.cells, Pt.slots] at X705 l705 y705 z705 st705 hQ705
  rw [l705] at X705
  subst y705 z705
  obtain ⟨rfl, N705q, H705⟩ := hQ705
  have N705 := Fr.app N700 N705q
  obtain ⟨cq707, kq707, q707a, q707b, q707c⟩ := isOf hZ676 H705 Et700
  obtain ⟨_, _, ⟨T707, L707, k707, n707⟩, -, X707, ⟨Lc707, hQ707, l707, y707, z707⟩, st707⟩ := X705.interfaceBack hx (xi := mN58) (y := mN51) hown676 (mvT hZ676 (tw hw 345 rfl)) (mvT hZ676 (tw hw 346 rfl)) (mvT hZ676 (tw hw 347 rfl)) (mvT hZ676 (tw hw 348 rfl)) (mvT hZ676 (tw hw 349 rfl)) (mvT hZ676 (tw hw 350 rfl)) (mvT hZ676 (tw hw 351 rfl)) (mvT hZ676 (tw hw 342 rfl)) (by decide) (backOf (W := 1) (rmGet0 l Z a0 hw [] x700 y644 y676 em T700.heap n0 O706 S_EM hem (by omega : @LE.le Nat _ n0 y676) Et700 Ta700 Tb700) hZ676 (tw hw 352 rfl) (tw hw 311 rfl) (by decide) (by decide)) q707a q707b q707c (g := (mkF m 464 #[vI p1, vI p2, vI p3, vI p4, vI p5, vI c5, vI c6, vI c7, vI c8, vI c9, vI c10, vI 1, vR b423, vR b445, vR x468, vR x470, vR b472, vR b550, vR b618, vI 1, vR el, vI 0, vR x700] [(.int 0), (.ref x700), (.ref b472)])) rfl (by rw [hml]; rfl) (Steps.refl _) (argsL := [(.int 0)]) (rest := [(.ref b472)]) (lenOf pd_40 rfl) rfl (wL _) (hb hby at_464) (fun _ _ => ⟨rfl, H705, (by decide : 38 + 0 ≤ _), (by decide : 278 + 0 ≤ _)⟩)
  dsimp only [Pt.U, Pt.locs, Pt.cells, Pt.slots] at X707 l707 y707 z707 st707 hQ707
  rw [l707] at X707
  subst y707 z707
  obtain ⟨rfl, N707q, H707⟩ := hQ707
  have N707 := Fr.app N705 N707q
  have KD709 : Keep T500.heap h573 [] := ((Keep.refl _ _).trans K550 (all0)).trans KD586 (all0)
  have KD710 : Keep T500.heap T574.heap [] := ((Keep.refl _ _).trans KD709 (all0)).trans K574 (allS (Or.inr (by omega)) (all0))
  have KD711 : Keep T500.heap T619.heap [] := ((Keep.refl _ _).trans KD710 (all0)).trans KD639 (all0)
  have KD712 : Keep T500.heap T644.heap [] := ((Keep.refl _ _).trans KD711 (all0)).trans K644 (allS (Or.inr (by omega)) (all0))
  have KD713 : Keep T500.heap T676.heap [] := ((Keep.refl _ _).trans KD712 (all0)).trans K676 (allS (Or.inr (by omega)) (allS (Or.inr (by omega)) (all0)))
  have KD714 : Keep T500.heap T700.heap [] := ((Keep.refl _ _).trans KD713 (all0)).trans K700 (all0)
  have C715 := E500.keep KD714
  have C716 := Vf500.keep KD714 nin0
  have C717 := C500.keep KD714 nin0
  have C718 := Av500.keep KD714 nin0
  have C719 := C703.keep K700
  have KD720 : Keep T644.heap T700.heap [x619, d644] := ((Keep.refl _ _).trans K676 (allS (Or.inl (List.mem_of_getElem? (i := 0) rfl)) (allS (Or.inl (List.mem_of_getElem? (i := 1) rfl)) (all0)))).trans K700 (all0)
  have C721 := Sv644.keep KD720 (ninS (by omega : @Ne Nat y644 x619) (ninS (by omega : @Ne Nat y644 d644) (nin0)))
  have C722 := Sc644.keep KD720 (ninS (by omega : @Ne Nat y644 x619) (ninS (by omega : @Ne Nat y644 d644) (nin0)))
  have C723 := Vs644.keep KD720 (ninS (by omega : @Ne Nat t644 x619) (ninS (by omega : @Ne Nat t644 d644) (nin0)))
  obtain ⟨cq708, kq708, q708a, q708b, q708c⟩ := isOf hZ676 H707 C715
  obtain ⟨_, _, ⟨T708, L708, k708, n708⟩, -, X708, ⟨Lc708, hQ708, l708, y708, z708⟩, st708⟩ := X707.virtualBack hx (y := mN59) (z := mN59) hown676 (mvT hZ676 (tw hw 353 rfl)) (mvT hZ676 (tw hw 354 rfl)) (notFace_of_selects (args := #[]) (mvT hZ676 (tw hw 356 rfl))) (mvT hZ676 (tw hw 356 rfl)) (mvT hZ676 (tw hw 355 rfl)) (by decide) (StrChars.Road.eqW (W := 0) hZ676 hwq (kI := 4) (tw hw 1 rfl) (cs := ([(101 : Int32), (114 : Int32), (114 : Int32), (111 : Int32), (114 : Int32), (91 : Int32), c5, c6, (93 : Int32), (58 : Int32), (32 : Int32), c7, c8] : List Int32)) C715 C716 C717 C718 (StrChars.Road.codOf (n := 13) rfl (fun c hc => (hL501 c hc).2)) (fun c hc => own_c255 (hL501 c hc)) (by simp) (ds := ([(101 : Int32), (114 : Int32), (114 : Int32), (111 : Int32), (114 : Int32), (91 : Int32), c5, c6, (93 : Int32), (58 : Int32), (32 : Int32), c7, c8] : List Int32)) C719 C721 C722 C723 (StrChars.Road.codOf (n := 13) rfl (fun c hc => (hL501 c hc).2)) (fun c hc => own_c255 (hL501 c hc)) (by simp) (Sta.ext O706.2 S_CS) c_CS (by decide) (by decide)) q708a q708c (g := (mkF m 469 #[vI p1, vI p2, vI p3, vI p4, vI p5, vI c5, vI c6, vI c7, vI c8, vI c9, vI c10, vI 1, vR b423, vR b445, vR x468, vR x470, vR b472, vR b550, vR b618, vI 1, vR el, vI 0, vR x700] [(.ref y644), (.ref b472)])) rfl (by rw [hml]; rfl) (Steps.refl _) (argsL := [(.ref y644)]) (rest := []) (lenOf pd_30 rfl) rfl (wL _) (hb hby at_469) (fun _ _ => ⟨rfl, H707, (by decide : 38 + 0 ≤ _), (by decide : 278 + 0 ≤ _)⟩)
  dsimp only [Pt.U, Pt.locs, Pt.cells, Pt.slots] at X708 l708 y708 z708 st708 hQ708
  rw [l708] at X708
  subst y708 z708
  obtain ⟨hv708, hL708, H708⟩ := hQ708
  obtain rfl := (hv708.elim (fun q => q.1) (fun q => absurd rfl q.2) : _ = some (Value.int 1))
  subst hL708
  have N708q := Fr.nil n0
  have N708 := Fr.app N707 N708q
  obtain ⟨cq724, kq724, q724a, q724b, q724c⟩ := isOf hZ676 H708 Et700
  obtain ⟨_, _, ⟨T724, L724, k724, n724⟩, -, X724, ⟨Lc724, hQ724, l724, y724, z724⟩, st724⟩ := X708.interfaceBack hx (xi := mN58) (y := mN51) hown676 (mvT hZ676 (tw hw 345 rfl)) (mvT hZ676 (tw hw 346 rfl)) (mvT hZ676 (tw hw 347 rfl)) (mvT hZ676 (tw hw 348 rfl)) (mvT hZ676 (tw hw 349 rfl)) (mvT hZ676 (tw hw 350 rfl)) (mvT hZ676 (tw hw 351 rfl)) (mvT hZ676 (tw hw 342 rfl)) (by decide) (backOf (W := 1) (rmGet1 l Z a0 hw [] x700 y644 y676 em T700.heap n0 O706 S_EM hem (by omega : @LE.le Nat _ n0 y676) Et700 Ta700 Tb700) hZ676 (tw hw 352 rfl) (tw hw 311 rfl) (by decide) (by decide)) q724a q724b q724c (g := (mkF m 480 #[vI p1, vI p2, vI p3, vI p4, vI p5, vI c5, vI c6, vI c7, vI c8, vI c9, vI c10, vI 1, vR b423, vR b445, vR x468, vR x470, vR b472, vR b550, vR b618, vI 1, vR el, vI 0, vR x700] [(.int 1), (.ref x700), (.ref b550)])) rfl (by rw [hml]; rfl) (Steps.refl _) (argsL := [(.int 1)]) (rest := [(.ref b550)]) (lenOf pd_40 rfl) rfl (wL _) (hb hby at_480) (fun _ _ => ⟨rfl, H708, (by decide : 38 + 0 ≤ _), (by decide : 278 + 0 ≤ _)⟩)
  dsimp only [Pt.U, Pt.locs, Pt.cells, Pt.slots] at X724 l724 y724 z724 st724 hQ724
  rw [l724] at X724
  subst y724 z724
  obtain ⟨rfl, N724q, H724⟩ := hQ724
  have N724 := Fr.app N708 N724q
  have KD726 : Keep T574.heap T644.heap [] := ((Keep.refl _ _).trans KD639 (all0)).trans K644 (allS (Or.inr (by omega)) (all0))
  have KD727 : Keep T574.heap T700.heap [] := ((Keep.refl _ _).trans KD726 (all0)).trans KD720 (allS (Or.inr (by omega)) (allS (Or.inr (by omega)) (all0)))
  have C728 := E574.keep KD727
  have C729 := Vf574.keep KD727 nin0
  have C730 := C574.keep KD727 nin0
  have C731 := Av574.keep KD727 nin0
  have C732 := Es676.keep K700
  have C733 := Sv676.keep K700 nin0
  have C734 := Sc676.keep K700 nin0
  have C735 := Vs676.keep K700 nin0
  obtain ⟨cq725, kq725, q725a, q725b, q725c⟩ := isOf hZ676 H724 C728
  obtain ⟨_, _, ⟨T725, L725, k725, n725⟩, -, X725, ⟨Lc725, hQ725, l725, y725, z725⟩, st725⟩ := X724.virtualBack hx (y := mN59) (z := mN59) hown676 (mvT hZ676 (tw hw 353 rfl)) (mvT hZ676 (tw hw 354 rfl)) (notFace_of_selects (args := #[]) (mvT hZ676 (tw hw 356 rfl))) (mvT hZ676 (tw hw 356 rfl)) (mvT hZ676 (tw hw 355 rfl)) (by decide) (StrChars.Road.eqW (W := 0) hZ676 hwq (kI := 4) (tw hw 1 rfl) (cs := ([(101 : Int32), (114 : Int32), (114 : Int32), (111 : Int32), (114 : Int32), (91 : Int32), c9, (93 : Int32), (58 : Int32), (32 : Int32), c10] : List Int32)) C728 C729 C730 C731 (StrChars.Road.codOf (n := 11) rfl (fun c hc => (hL575 c hc).2)) (fun c hc => own_c255 (hL575 c hc)) (by simp) (ds := ([(101 : Int32), (114 : Int32), (114 : Int32), (111 : Int32), (114 : Int32), (91 : Int32), c9, (93 : Int32), (58 : Int32), (32 : Int32), c10] : List Int32)) C732 C733 C734 C735 (StrChars.Road.codOf (n := 11) rfl (fun c hc => (hL575 c hc).2)) (fun c hc => own_c255 (hL575 c hc)) (by simp) (Sta.ext O706.2 S_CS) c_CS (by decide) (by decide)) q725a q725c (g := (mkF m 485 #[vI p1, vI p2, vI p3, vI p4, vI p5, vI c5, vI c6, vI c7, vI c8, vI c9, vI c10, vI 1, vR b423, vR b445, vR x468, vR x470, vR b472, vR b550, vR b618, vI 1, vR el, vI 0, vR x700] [(.ref y676), (.ref b550)])) rfl (by rw [hml]; rfl) (Steps.refl _) (argsL := [(.ref y676)]) (rest := []) (lenOf pd_30 rfl) rfl (wL _) (hb hby at_485) (fun _ _ => ⟨rfl, H724, (by decide : 38 + 0 ≤ _), (by decide : 278 + 0 ≤ _)⟩)
  dsimp only [Pt.U, Pt.locs, Pt.cells, Pt.slots] at X725 l725 y725 z725 st725 hQ725
  rw [l725] at X725
  subst y725 z725
  obtain ⟨hv725, hL725, H725⟩ := hQ725
  obtain rfl := (hv725.elim (fun q => q.1) (fun q => absurd rfl q.2) : _ = some (Value.int 1))
  subst hL725
  have N725q := Fr.nil n0
  have N725 := Fr.app N724 N725q
  have C737 := C701.keep K700
  have C738 := C702.keep K700 nin0
  have C739 := El676.keep K700
  have C740 := Ln676.keep K700 nin0
  obtain ⟨cq736, kq736, q736a, q736b, q736c⟩ := isOf hZ676 H725 C737
  obtain ⟨_, _, ⟨T736, L736, k736, n736⟩, -, X736, ⟨Lc736, hQ736, l736, y736, z736⟩, st736⟩ := X725.virtualBack hx (y := mN29) (z := mN29) hown676 (mvT hZ676 (tw hw 80 rfl)) (mvT hZ676 (tw hw 81 rfl)) (notFace_of_selects (args := #[]) (mvT hZ676 (tw hw 83 rfl))) (mvT hZ676 (tw hw 83 rfl)) (mvT hZ676 (tw hw 82 rfl)) (by decide) (backOf (W := 0) (rmMie2 l Z a0 hw [] b618 x619 T700.heap n0 O706 C737 C738 C739 C740) hZ676 (tw hw 84 rfl) (tw hw 49 rfl) (by decide) (by decide)) q736a q736c (g := (mkF m 493 #[vI p1, vI p2, vI p3, vI p4, vI p5, vI c5, vI c6, vI c7, vI c8, vI c9, vI c10, vI 1, vR b423, vR b445, vR x468, vR x470, vR b472, vR b550, vR b618, vI 1, vR el, vI 0, vR x700] [(.ref b618)])) rfl (by rw [hml]; rfl) (Steps.refl _) (argsL := []) (rest := []) (lenOf pd_10 rfl) rfl (wL _) (hb hby at_493) (fun _ _ => ⟨rfl, H725, (by decide : 38 + 0 ≤ _), (by decide : 278 + 0 ≤ _)⟩)
  dsimp only [Pt.U, Pt.locs, Pt.cells, Pt.slots] at X736 l736 y736 z736 st736 hQ736
  rw [l736] at X736
  subst y736 z736
  obtain ⟨rfl, N736q, H736⟩ := hQ736
  have N736 := Fr.app N725 N736q
  obtain ⟨fs, hr, hrun, hended, eR, eW, eI, eS⟩ := Stand.leaveW (s := s) (vm₁ := T676.vm) X736 hS676 (by rw [H736]; omega) (v := some (.int 1)) (nvr Bd.returns)
  refine ⟨_, _, pre109 _ ?_, hrun, hended, _, _, rfl, ?_, eR, eW, eI, eS.mono (by decide) (by decide)⟩
  ·skip
   show SS p e below s₁ m 58 #[vI p1, vI p2, vI p3, vI p4, vI p5, vI c5, vI c6, vI c7, vI c8, vI c9, vI c10, .unset, .unset, .unset, .unset, .unset, .unset, .unset, .unset, .unset, .unset, .unset, .unset] [(.int (p5 &&& (1 : Int32)))] _
   refine XS.ifNo X0.here hx rfl (hb hby at_58) rfl ((if0 _ _).trans (feq hc108).1) ?_
   refine XS.iconst X0.here hx rfl (hb hby at_61) ?_
   refine XS.goto X0.here hx rfl (pc0 := 62) (pc' := 66) rfl (hb hby at_62) (by decide) (by decide) ?_
   refine XS.istore X0.here hx rfl (hb hby at_66) rfl (l' := #[vI p1, vI p2, vI p3, vI p4, vI p5, vI c5, vI c6, vI c7, vI c8, vI c9, vI c10, vI 1, .unset, .unset, .unset, .unset, .unset, .unset, .unset, .unset, .unset, .unset, .unset]) rfl ?_
   show SS p e below s₁ m 68 #[vI p1, vI p2, vI p3, vI p4, vI p5, vI c5, vI c6, vI c7, vI c8, vI c9, vI c10, vI 1, .unset, .unset, .unset, .unset, .unset, .unset, .unset, .unset, .unset, .unset, .unset] [] _
   refine st423 _ ?_
   refine XS.dup X423.here hx rfl (hb hby at_71) rfl rfl ?_
   refine XS.iconst X423.here hx rfl (hb hby at_72) ?_
   show SS p e below T423 m 73 #[vI p1, vI p2, vI p3, vI p4, vI p5, vI c5, vI c6, vI c7, vI c8, vI c9, vI c10, vI 1, .unset, .unset, .unset, .unset, .unset, .unset, .unset, .unset, .unset, .unset, .unset] [(.int 2), (.ref b423), (.ref b423)] _
   refine st424 _ ?_
   refine XS.dup X424.here hx rfl (hb hby at_75) rfl rfl ?_
   refine XS.iconst X424.here hx rfl (hb hby at_76) ?_
   refine XS.iload X424.here hx rfl (hb hby at_77) rfl ?_
   show SS p e below T424 m 79 #[vI p1, vI p2, vI p3, vI p4, vI p5, vI c5, vI c6, vI c7, vI c8, vI c9, vI c10, vI 1, .unset, .unset, .unset, .unset, .unset, .unset, .unset, .unset, .unset, .unset, .unset] [(.int c5), (.int 0), (.ref b424), (.ref b424), (.ref b423), (.ref b423)] _
   refine st426 _ ?_
   refine XS.dup X426.here hx rfl (hb hby at_80) rfl rfl ?_
   refine XS.iconst X426.here hx rfl (hb hby at_81) ?_
   refine XS.iload X426.here hx rfl (hb hby at_82) rfl ?_
   show SS p e below T426 m 84 #[vI p1, vI p2, vI p3, vI p4, vI p5, vI c5, vI c6, vI c7, vI c8, vI c9, vI c10, vI 1, .unset, .unset, .unset, .unset, .unset, .unset, .unset, .unset, .unset, .unset, .unset] [(.int c6), (.int 1), (.ref b424), (.ref b424), (.ref b423), (.ref b423)] _
   refine st428 _ ?_
   show SS p e below T428 m 85 #[vI p1, vI p2, vI p3, vI p4, vI p5, vI c5, vI c6, vI c7, vI c8, vI c9, vI c10, vI 1, .unset, .unset, .unset, .unset, .unset, .unset, .unset, .unset, .unset, .unset, .unset] [(.ref b424), (.ref b423), (.ref b423)] _
   refine st429.trans ?_
   refine XS.astore X429.here hx rfl (hb hby at_88) rfl rfl (l' := #[vI p1, vI p2, vI p3, vI p4, vI p5, vI c5, vI c6, vI c7, vI c8, vI c9, vI c10, vI 1, vR b423, .unset, .unset, .unset, .unset, .unset, .unset, .unset, .unset, .unset, .unset]) rfl ?_
   show SS p e below T429 m 90 #[vI p1, vI p2, vI p3, vI p4, vI p5, vI c5, vI c6, vI c7, vI c8, vI c9, vI c10, vI 1, vR b423, .unset, .unset, .unset, .unset, .unset, .unset, .unset, .unset, .unset, .unset] [] _
   refine st445 _ ?_
   refine XS.dup X445.here hx rfl (hb hby at_93) rfl rfl ?_
   refine XS.iconst X445.here hx rfl (hb hby at_94) ?_
   show SS p e below T445 m 95 #[vI p1, vI p2, vI p3, vI p4, vI p5, vI c5, vI c6, vI c7, vI c8, vI c9, vI c10, vI 1, vR b423, .unset, .unset, .unset, .unset, .unset, .unset, .unset, .unset, .unset, .unset] [(.int 2), (.ref b445), (.ref b445)] _
   refine st446 _ ?_
   refine XS.dup X446.here hx rfl (hb hby at_97) rfl rfl ?_
   refine XS.iconst X446.here hx rfl (hb hby at_98) ?_
   refine XS.iload X446.here hx rfl (hb hby at_99) rfl ?_
   show SS p e below T446 m 101 #[vI p1, vI p2, vI p3, vI p4, vI p5, vI c5, vI c6, vI c7, vI c8, vI c9, vI c10, vI 1, vR b423, .unset, .unset, .unset, .unset, .unset, .unset, .unset, .unset, .unset, .unset] [(.int c7), (.int 0), (.ref b446), (.ref b446), (.ref b445), (.ref b445)] _
   refine st448 _ ?_
   refine XS.dup X448.here hx rfl (hb hby at_102) rfl rfl ?_
   refine XS.iconst X448.here hx rfl (hb hby at_103) ?_
   refine XS.iload X448.here hx rfl (hb hby at_104) rfl ?_
   show SS p e below T448 m 106 #[vI p1, vI p2, vI p3, vI p4, vI p5, vI c5, vI c6, vI c7, vI c8, vI c9, vI c10, vI 1, vR b423, .unset, .unset, .unset, .unset, .unset, .unset, .unset, .unset, .unset, .unset] [(.int c8), (.int 1), (.ref b446), (.ref b446), (.ref b445), (.ref b445)] _
   refine st450 _ ?_
   show SS p e below T450 m 107 #[vI p1, vI p2, vI p3, vI p4, vI p5, vI c5, vI c6, vI c7, vI c8, vI c9, vI c10, vI 1, vR b423, .unset, .unset, .unset, .unset, .unset, .unset, .unset, .unset, .unset, .unset] [(.ref b446), (.ref b445), (.ref b445)] _
   refine st451.trans ?_
   refine XS.astore X451.here hx rfl (hb hby at_110) rfl rfl (l' := #[vI p1, vI p2, vI p3, vI p4, vI p5, vI c5, vI c6, vI c7, vI c8, vI c9, vI c10, vI 1, vR b423, vR b445, .unset, .unset, .unset, .unset, .unset, .unset, .unset, .unset, .unset]) rfl ?_
   refine XS.iload X451.here hx rfl (hb hby at_112) rfl ?_
   show SS p e below T451 m 114 #[vI p1, vI p2, vI p3, vI p4, vI p5, vI c5, vI c6, vI c7, vI c8, vI c9, vI c10, vI 1, vR b423, vR b445, .unset, .unset, .unset, .unset, .unset, .unset, .unset, .unset, .unset] [(.int c9)] _
   refine st468 _ ?_
   refine XS.astore X468.here hx rfl (hb hby at_117) rfl rfl (l' := #[vI p1, vI p2, vI p3, vI p4, vI p5, vI c5, vI c6, vI c7, vI c8, vI c9, vI c10, vI 1, vR b423, vR b445, vR x468, .unset, .unset, .unset, .unset, .unset, .unset, .unset, .unset]) rfl ?_
   refine XS.iload X468.here hx rfl (hb hby at_119) rfl ?_
   refine XS.ifNo X468.here hx rfl (hb hby at_121) rfl ((if0 _ _).trans (feq (by decide : ¬ ((1 : Int32) = (0 : Int32)))).1) ?_
   refine XS.iload X468.here hx rfl (hb hby at_124) rfl ?_
   show SS p e below T468 m 126 #[vI p1, vI p2, vI p3, vI p4, vI p5, vI c5, vI c6, vI c7, vI c8, vI c9, vI c10, vI 1, vR b423, vR b445, vR x468, .unset, .unset, .unset, .unset, .unset, .unset, .unset, .unset] [(.int c10)] _
   refine st470 _ ?_
   refine XS.goto X470.here hx rfl (pc0 := 129) (pc' := 134) rfl (hb hby at_129) (by decide) (by decide) ?_
   refine XS.astore X470.here hx rfl (hb hby at_134) rfl rfl (l' := #[vI p1, vI p2, vI p3, vI p4, vI p5, vI c5, vI c6, vI c7, vI c8, vI c9, vI c10, vI 1, vR b423, vR b445, vR x468, vR x470, .unset, .unset, .unset, .unset, .unset, .unset, .unset]) rfl ?_
   show SS p e below T470 m 136 #[vI p1, vI p2, vI p3, vI p4, vI p5, vI c5, vI c6, vI c7, vI c8, vI c9, vI c10, vI 1, vR b423, vR b445, vR x468, vR x470, .unset, .unset, .unset, .unset, .unset, .unset, .unset] [] _
   refine st472 _ ?_
   refine XS.dup X472.here hx rfl (hb hby at_139) rfl rfl ?_
   refine XS.bipush X472.here hx rfl (hb hby at_140) ?_
   show SS p e below T472 m 142 #[vI p1, vI p2, vI p3, vI p4, vI p5, vI c5, vI c6, vI c7, vI c8, vI c9, vI c10, vI 1, vR b423, vR b445, vR x468, vR x470, .unset, .unset, .unset, .unset, .unset, .unset, .unset] [(.int 13), (.ref b472), (.ref b472)] _
   refine st473 _ ?_
   refine XS.dup X473.here hx rfl (hb hby at_144) rfl rfl ?_
   refine XS.iconst X473.here hx rfl (hb hby at_145) ?_
   refine XS.bipush X473.here hx rfl (hb hby at_146) ?_
   show SS p e below T473 m 148 #[vI p1, vI p2, vI p3, vI p4, vI p5, vI c5, vI c6, vI c7, vI c8, vI c9, vI c10, vI 1, vR b423, vR b445, vR x468, vR x470, .unset, .unset, .unset, .unset, .unset, .unset, .unset] [(.int 101), (.int 0), (.ref b473), (.ref b473), (.ref b472), (.ref b472)] _
   refine st475 _ ?_
   refine XS.dup X475.here hx rfl (hb hby at_149) rfl rfl ?_
   refine XS.iconst X475.here hx rfl (hb hby at_150) ?_
   refine XS.bipush X475.here hx rfl (hb hby at_151) ?_
   show SS p e below T475 m 153 #[vI p1, vI p2, vI p3, vI p4, vI p5, vI c5, vI c6, vI c7, vI c8, vI c9, vI c10, vI 1, vR b423, vR b445, vR x468, vR x470, .unset, .unset, .unset, .unset, .unset, .unset, .unset] [(.int 114), (.int 1), (.ref b473), (.ref b473), (.ref b472), (.ref b472)] _
   refine st477 _ ?_
   refine XS.dup X477.here hx rfl (hb hby at_154) rfl rfl ?_
   refine XS.iconst X477.here hx rfl (hb hby at_155) ?_
   refine XS.bipush X477.here hx rfl (hb hby at_156) ?_
   show SS p e below T477 m 158 #[vI p1, vI p2, vI p3, vI p4, vI p5, vI c5, vI c6, vI c7, vI c8, vI c9, vI c10, vI 1, vR b423, vR b445, vR x468, vR x470, .unset, .unset, .unset, .unset, .unset, .unset, .unset] [(.int 114), (.int 2), (.ref b473), (.ref b473), (.ref b472), (.ref b472)] _
   refine st479 _ ?_
   refine XS.dup X479.here hx rfl (hb hby at_159) rfl rfl ?_
   refine XS.iconst X479.here hx rfl (hb hby at_160) ?_
   refine XS.bipush X479.here hx rfl (hb hby at_161) ?_
   show SS p e below T479 m 163 #[vI p1, vI p2, vI p3, vI p4, vI p5, vI c5, vI c6, vI c7, vI c8, vI c9, vI c10, vI 1, vR b423, vR b445, vR x468, vR x470, .unset, .unset, .unset, .unset, .unset, .unset, .unset] [(.int 111), (.int 3), (.ref b473), (.ref b473), (.ref b472), (.ref b472)] _
   refine st481 _ ?_
   refine XS.dup X481.here hx rfl (hb hby at_164) rfl rfl ?_
   refine XS.iconst X481.here hx rfl (hb hby at_165) ?_
   refine XS.bipush X481.here hx rfl (hb hby at_166) ?_
   show SS p e below T481 m 168 #[vI p1, vI p2, vI p3, vI p4, vI p5, vI c5, vI c6, vI c7, vI c8, vI c9, vI c10, vI 1, vR b423, vR b445, vR x468, vR x470, .unset, .unset, .unset, .unset, .unset, .unset, .unset] [(.int 114), (.int 4), (.ref b473), (.ref b473), (.ref b472), (.ref b472)] _
   refine st483 _ ?_
   refine XS.dup X483.here hx rfl (hb hby at_169) rfl rfl ?_
   refine XS.iconst X483.here hx rfl (hb hby at_170) ?_
   refine XS.bipush X483.here hx rfl (hb hby at_171) ?_
   show SS p e below T483 m 173 #[vI p1, vI p2, vI p3, vI p4, vI p5, vI c5, vI c6, vI c7, vI c8, vI c9, vI c10, vI 1, vR b423, vR b445, vR x468, vR x470, .unset, .unset, .unset, .unset, .unset, .unset, .unset] [(.int 91), (.int 5), (.ref b473), (.ref b473), (.ref b472), (.ref b472)] _
   refine st485 _ ?_
   refine XS.dup X485.here hx rfl (hb hby at_174) rfl rfl ?_
   refine XS.bipush X485.here hx rfl (hb hby at_175) ?_
   refine XS.iload X485.here hx rfl (hb hby at_177) rfl ?_
   show SS p e below T485 m 179 #[vI p1, vI p2, vI p3, vI p4, vI p5, vI c5, vI c6, vI c7, vI c8, vI c9, vI c10, vI 1, vR b423, vR b445, vR x468, vR x470, .unset, .unset, .unset, .unset, .unset, .unset, .unset] [(.int c5), (.int 6), (.ref b473), (.ref b473), (.ref b472), (.ref b472)] _
   refine st487 _ ?_
   refine XS.dup X487.here hx rfl (hb hby at_180) rfl rfl ?_
   refine XS.bipush X487.here hx rfl (hb hby at_181) ?_
   refine XS.iload X487.here hx rfl (hb hby at_183) rfl ?_
   show SS p e below T487 m 185 #[vI p1, vI p2, vI p3, vI p4, vI p5, vI c5, vI c6, vI c7, vI c8, vI c9, vI c10, vI 1, vR b423, vR b445, vR x468, vR x470, .unset, .unset, .unset, .unset, .unset, .unset, .unset] [(.int c6), (.int 7), (.ref b473), (.ref b473), (.ref b472), (.ref b472)] _
   refine st489 _ ?_
   refine XS.dup X489.here hx rfl (hb hby at_186) rfl rfl ?_
   refine XS.bipush X489.here hx rfl (hb hby at_187) ?_
   refine XS.bipush X489.here hx rfl (hb hby at_189) ?_
   show SS p e below T489 m 191 #[vI p1, vI p2, vI p3, vI p4, vI p5, vI c5, vI c6, vI c7, vI c8, vI c9, vI c10, vI 1, vR b423, vR b445, vR x468, vR x470, .unset, .unset, .unset, .unset, .unset, .unset, .unset] [(.int 93), (.int 8), (.ref b473), (.ref b473), (.ref b472), (.ref b472)] _
   refine st491 _ ?_
   refine XS.dup X491.here hx rfl (hb hby at_192) rfl rfl ?_
   refine XS.bipush X491.here hx rfl (hb hby at_193) ?_
   refine XS.bipush X491.here hx rfl (hb hby at_195) ?_
   show SS p e below T491 m 197 #[vI p1, vI p2, vI p3, vI p4, vI p5, vI c5, vI c6, vI c7, vI c8, vI c9, vI c10, vI 1, vR b423, vR b445, vR x468, vR x470, .unset, .unset, .unset, .unset, .unset, .unset, .unset] [(.int 58), (.int 9), (.ref b473), (.ref b473), (.ref b472), (.ref b472)] _
   refine st493 _ ?_
   refine XS.dup X493.here hx rfl (hb hby at_198) rfl rfl ?_
   refine XS.bipush X493.here hx rfl (hb hby at_199) ?_
   refine XS.bipush X493.here hx rfl (hb hby at_201) ?_
   show SS p e below T493 m 203 #[vI p1, vI p2, vI p3, vI p4, vI p5, vI c5, vI c6, vI c7, vI c8, vI c9, vI c10, vI 1, vR b423, vR b445, vR x468, vR x470, .unset, .unset, .unset, .unset, .unset, .unset, .unset] [(.int 32), (.int 10), (.ref b473), (.ref b473), (.ref b472), (.ref b472)] _
   refine st495 _ ?_
   refine XS.dup X495.here hx rfl (hb hby at_204) rfl rfl ?_
   refine XS.bipush X495.here hx rfl (hb hby at_205) ?_
   refine XS.iload X495.here hx rfl (hb hby at_207) rfl ?_
   show SS p e below T495 m 209 #[vI p1, vI p2, vI p3, vI p4, vI p5, vI c5, vI c6, vI c7, vI c8, vI c9, vI c10, vI 1, vR b423, vR b445, vR x468, vR x470, .unset, .unset, .unset, .unset, .unset, .unset, .unset] [(.int c7), (.int 11), (.ref b473), (.ref b473), (.ref b472), (.ref b472)] _
   refine st497 _ ?_
   refine XS.dup X497.here hx rfl (hb hby at_210) rfl rfl ?_
   refine XS.bipush X497.here hx rfl (hb hby at_211) ?_
   refine XS.iload X497.here hx rfl (hb hby at_213) rfl ?_
   show SS p e below T497 m 215 #[vI p1, vI p2, vI p3, vI p4, vI p5, vI c5, vI c6, vI c7, vI c8, vI c9, vI c10, vI 1, vR b423, vR b445, vR x468, vR x470, .unset, .unset, .unset, .unset, .unset, .unset, .unset] [(.int c8), (.int 12), (.ref b473), (.ref b473), (.ref b472), (.ref b472)] _
   refine st499 _ ?_
   show SS p e below T499 m 216 #[vI p1, vI p2, vI p3, vI p4, vI p5, vI c5, vI c6, vI c7, vI c8, vI c9, vI c10, vI 1, vR b423, vR b445, vR x468, vR x470, .unset, .unset, .unset, .unset, .unset, .unset, .unset] [(.ref b473), (.ref b472), (.ref b472)] _
   refine st500.trans ?_
   refine XS.astore X500.here hx rfl (hb hby at_219) rfl rfl (l' := #[vI p1, vI p2, vI p3, vI p4, vI p5, vI c5, vI c6, vI c7, vI c8, vI c9, vI c10, vI 1, vR b423, vR b445, vR x468, vR x470, vR b472, .unset, .unset, .unset, .unset, .unset, .unset]) rfl ?_
   refine XS.iload X500.here hx rfl (hb hby at_221) rfl ?_
   refine XS.ifNo X500.here hx rfl (hb hby at_223) rfl ((if0 _ _).trans (feq (by decide : ¬ ((1 : Int32) = (0 : Int32)))).1) ?_
   show SS p e below T500 m 226 #[vI p1, vI p2, vI p3, vI p4, vI p5, vI c5, vI c6, vI c7, vI c8, vI c9, vI c10, vI 1, vR b423, vR b445, vR x468, vR x470, vR b472, .unset, .unset, .unset, .unset, .unset, .unset] [] _
   refine st550 _ ?_
   refine XS.dup X550.here hx rfl (hb hby at_229) rfl rfl ?_
   refine XS.bipush X550.here hx rfl (hb hby at_230) ?_
   show SS p e below T550 m 232 #[vI p1, vI p2, vI p3, vI p4, vI p5, vI c5, vI c6, vI c7, vI c8, vI c9, vI c10, vI 1, vR b423, vR b445, vR x468, vR x470, vR b472, .unset, .unset, .unset, .unset, .unset, .unset] [(.int 11), (.ref b550), (.ref b550)] _
   refine st551 _ ?_
   refine XS.dup X551.here hx rfl (hb hby at_234) rfl rfl ?_
   refine XS.iconst X551.here hx rfl (hb hby at_235) ?_
   refine XS.bipush X551.here hx rfl (hb hby at_236) ?_
   show SS p e below T551 m 238 #[vI p1, vI p2, vI p3, vI p4, vI p5, vI c5, vI c6, vI c7, vI c8, vI c9, vI c10, vI 1, vR b423, vR b445, vR x468, vR x470, vR b472, .unset, .unset, .unset, .unset, .unset, .unset] [(.int 101), (.int 0), (.ref b551), (.ref b551), (.ref b550), (.ref b550)] _
   refine st553 _ ?_
   refine XS.dup X553.here hx rfl (hb hby at_239) rfl rfl ?_
   refine XS.iconst X553.here hx rfl (hb hby at_240) ?_
   refine XS.bipush X553.here hx rfl (hb hby at_241) ?_
   show SS p e below T553 m 243 #[vI p1, vI p2, vI p3, vI p4, vI p5, vI c5, vI c6, vI c7, vI c8, vI c9, vI c10, vI 1, vR b423, vR b445, vR x468, vR x470, vR b472, .unset, .unset, .unset, .unset, .unset, .unset] [(.int 114), (.int 1), (.ref b551), (.ref b551), (.ref b550), (.ref b550)] _
   refine st555 _ ?_
   refine XS.dup X555.here hx rfl (hb hby at_244) rfl rfl ?_
   refine XS.iconst X555.here hx rfl (hb hby at_245) ?_
   refine XS.bipush X555.here hx rfl (hb hby at_246) ?_
   show SS p e below T555 m 248 #[vI p1, vI p2, vI p3, vI p4, vI p5, vI c5, vI c6, vI c7, vI c8, vI c9, vI c10, vI 1, vR b423, vR b445, vR x468, vR x470, vR b472, .unset, .unset, .unset, .unset, .unset, .unset] [(.int 114), (.int 2), (.ref b551), (.ref b551), (.ref b550), (.ref b550)] _
   refine st557 _ ?_
   refine XS.dup X557.here hx rfl (hb hby at_249) rfl rfl ?_
   refine XS.iconst X557.here hx rfl (hb hby at_250) ?_
   refine XS.bipush X557.here hx rfl (hb hby at_251) ?_
   show SS p e below T557 m 253 #[vI p1, vI p2, vI p3, vI p4, vI p5, vI c5, vI c6, vI c7, vI c8, vI c9, vI c10, vI 1, vR b423, vR b445, vR x468, vR x470, vR b472, .unset, .unset, .unset, .unset, .unset, .unset] [(.int 111), (.int 3), (.ref b551), (.ref b551), (.ref b550), (.ref b550)] _
   refine st559 _ ?_
   refine XS.dup X559.here hx rfl (hb hby at_254) rfl rfl ?_
   refine XS.iconst X559.here hx rfl (hb hby at_255) ?_
   refine XS.bipush X559.here hx rfl (hb hby at_256) ?_
   show SS p e below T559 m 258 #[vI p1, vI p2, vI p3, vI p4, vI p5, vI c5, vI c6, vI c7, vI c8, vI c9, vI c10, vI 1, vR b423, vR b445, vR x468, vR x470, vR b472, .unset, .unset, .unset, .unset, .unset, .unset] [(.int 114), (.int 4), (.ref b551), (.ref b551), (.ref b550), (.ref b550)] _
   refine st561 _ ?_
   refine XS.dup X561.here hx rfl (hb hby at_259) rfl rfl ?_
   refine XS.iconst X561.here hx rfl (hb hby at_260) ?_
   refine XS.bipush X561.here hx rfl (hb hby at_261) ?_
   show SS p e below T561 m 263 #[vI p1, vI p2, vI p3, vI p4, vI p5, vI c5, vI c6, vI c7, vI c8, vI c9, vI c10, vI 1, vR b423, vR b445, vR x468, vR x470, vR b472, .unset, .unset, .unset, .unset, .unset, .unset] [(.int 91), (.int 5), (.ref b551), (.ref b551), (.ref b550), (.ref b550)] _
   refine st563 _ ?_
   refine XS.dup X563.here hx rfl (hb hby at_264) rfl rfl ?_
   refine XS.bipush X563.here hx rfl (hb hby at_265) ?_
   refine XS.iload X563.here hx rfl (hb hby at_267) rfl ?_
   show SS p e below T563 m 269 #[vI p1, vI p2, vI p3, vI p4, vI p5, vI c5, vI c6, vI c7, vI c8, vI c9, vI c10, vI 1, vR b423, vR b445, vR x468, vR x470, vR b472, .unset, .unset, .unset, .unset, .unset, .unset] [(.int c9), (.int 6), (.ref b551), (.ref b551), (.ref b550), (.ref b550)] _
   refine st565 _ ?_
   refine XS.dup X565.here hx rfl (hb hby at_270) rfl rfl ?_
   refine XS.bipush X565.here hx rfl (hb hby at_271) ?_
   refine XS.bipush X565.here hx rfl (hb hby at_273) ?_
   show SS p e below T565 m 275 #[vI p1, vI p2, vI p3, vI p4, vI p5, vI c5, vI c6, vI c7, vI c8, vI c9, vI c10, vI 1, vR b423, vR b445, vR x468, vR x470, vR b472, .unset, .unset, .unset, .unset, .unset, .unset] [(.int 93), (.int 7), (.ref b551), (.ref b551), (.ref b550), (.ref b550)] _
   refine st567 _ ?_
   refine XS.dup X567.here hx rfl (hb hby at_276) rfl rfl ?_
   refine XS.bipush X567.here hx rfl (hb hby at_277) ?_
   refine XS.bipush X567.here hx rfl (hb hby at_279) ?_
   show SS p e below T567 m 281 #[vI p1, vI p2, vI p3, vI p4, vI p5, vI c5, vI c6, vI c7, vI c8, vI c9, vI c10, vI 1, vR b423, vR b445, vR x468, vR x470, vR b472, .unset, .unset, .unset, .unset, .unset, .unset] [(.int 58), (.int 8), (.ref b551), (.ref b551), (.ref b550), (.ref b550)] _
   refine st569 _ ?_
   refine XS.dup X569.here hx rfl (hb hby at_282) rfl rfl ?_
   refine XS.bipush X569.here hx rfl (hb hby at_283) ?_
   refine XS.bipush X569.here hx rfl (hb hby at_285) ?_
   show SS p e below T569 m 287 #[vI p1, vI p2, vI p3, vI p4, vI p5, vI c5, vI c6, vI c7, vI c8, vI c9, vI c10, vI 1, vR b423, vR b445, vR x468, vR x470, vR b472, .unset, .unset, .unset, .unset, .unset, .unset] [(.int 32), (.int 9), (.ref b551), (.ref b551), (.ref b550), (.ref b550)] _
   refine st571 _ ?_
   refine XS.dup X571.here hx rfl (hb hby at_288) rfl rfl ?_
   refine XS.bipush X571.here hx rfl (hb hby at_289) ?_
   refine XS.iload X571.here hx rfl (hb hby at_291) rfl ?_
   show SS p e below T571 m 293 #[vI p1, vI p2, vI p3, vI p4, vI p5, vI c5, vI c6, vI c7, vI c8, vI c9, vI c10, vI 1, vR b423, vR b445, vR x468, vR x470, vR b472, .unset, .unset, .unset, .unset, .unset, .unset] [(.int c10), (.int 10), (.ref b551), (.ref b551), (.ref b550), (.ref b550)] _
   refine st573 _ ?_
   show SS p e below T573 m 294 #[vI p1, vI p2, vI p3, vI p4, vI p5, vI c5, vI c6, vI c7, vI c8, vI c9, vI c10, vI 1, vR b423, vR b445, vR x468, vR x470, vR b472, .unset, .unset, .unset, .unset, .unset, .unset] [(.ref b551), (.ref b550), (.ref b550)] _
   refine st574.trans ?_
   refine XS.goto X574.here hx rfl (pc0 := 297) (pc' := 365) rfl (hb hby at_297) (by decide) (by decide) ?_
   refine XS.astore X574.here hx rfl (hb hby at_365) rfl rfl (l' := #[vI p1, vI p2, vI p3, vI p4, vI p5, vI c5, vI c6, vI c7, vI c8, vI c9, vI c10, vI 1, vR b423, vR b445, vR x468, vR x470, vR b472, vR b550, .unset, .unset, .unset, .unset, .unset]) rfl ?_
   show SS p e below T574 m 367 #[vI p1, vI p2, vI p3, vI p4, vI p5, vI c5, vI c6, vI c7, vI c8, vI c9, vI c10, vI 1, vR b423, vR b445, vR x468, vR x470, vR b472, vR b550, .unset, .unset, .unset, .unset, .unset] [] _
   refine st618 _ ?_
   refine XS.dup X618.here hx rfl (hb hby at_370) rfl rfl ?_
   show SS p e below T618 m 371 #[vI p1, vI p2, vI p3, vI p4, vI p5, vI c5, vI c6, vI c7, vI c8, vI c9, vI c10, vI 1, vR b423, vR b445, vR x468, vR x470, vR b472, vR b550, .unset, .unset, .unset, .unset, .unset] [(.ref b618), (.ref b618)] _
   refine st619.trans ?_
   refine XS.astore X619.here hx rfl (hb hby at_374) rfl rfl (l' := #[vI p1, vI p2, vI p3, vI p4, vI p5, vI c5, vI c6, vI c7, vI c8, vI c9, vI c10, vI 1, vR b423, vR b445, vR x468, vR x470, vR b472, vR b550, vR b618, .unset, .unset, .unset, .unset]) rfl ?_
   refine XS.aload X619.here hx rfl (hb hby at_376) rfl rfl ?_
   show SS p e below T619 m 378 #[vI p1, vI p2, vI p3, vI p4, vI p5, vI c5, vI c6, vI c7, vI c8, vI c9, vI c10, vI 1, vR b423, vR b445, vR x468, vR x470, vR b472, vR b550, vR b618, .unset, .unset, .unset, .unset] [(.ref b618)] _
   refine st622.trans ?_
   refine XS.istore X622.here hx rfl (hb hby at_381) rfl (l' := #[vI p1, vI p2, vI p3, vI p4, vI p5, vI c5, vI c6, vI c7, vI c8, vI c9, vI c10, vI 1, vR b423, vR b445, vR x468, vR x470, vR b472, vR b550, vR b618, vI 1, .unset, .unset, .unset]) rfl ?_
   refine XS.aload X622.here hx rfl (hb hby at_383) rfl rfl ?_
   show SS p e below T622 m 385 #[vI p1, vI p2, vI p3, vI p4, vI p5, vI c5, vI c6, vI c7, vI c8, vI c9, vI c10, vI 1, vR b423, vR b445, vR x468, vR x470, vR b472, vR b550, vR b618, vI 1, .unset, .unset, .unset] [(.ref b618)] _
   refine st624.trans ?_
   refine XS.astore X624.here hx rfl (hb hby at_388) rfl rfl (l' := #[vI p1, vI p2, vI p3, vI p4, vI p5, vI c5, vI c6, vI c7, vI c8, vI c9, vI c10, vI 1, vR b423, vR b445, vR x468, vR x470, vR b472, vR b550, vR b618, vI 1, vR el, .unset, .unset]) rfl ?_
   refine XS.iload X624.here hx rfl (hb hby at_390) rfl ?_
   refine XS.ifNo X624.here hx rfl (hb hby at_392) rfl ((if0 _ _).trans (feq (by decide : ¬ ((1 : Int32) = (0 : Int32)))).1) ?_
   refine XS.aload X624.here hx rfl (hb hby at_395) rfl rfl ?_
   show SS p e below T624 m 397 #[vI p1, vI p2, vI p3, vI p4, vI p5, vI c5, vI c6, vI c7, vI c8, vI c9, vI c10, vI 1, vR b423, vR b445, vR x468, vR x470, vR b472, vR b550, vR b618, vI 1, vR el, .unset, .unset] [(.ref el)] _
   refine st625.trans ?_
   refine XS.ifYes X625.here hx rfl (pc0 := 402) (pc' := 407) rfl (hb hby at_402) rfl ((if0 _ _).trans (teq (by decide : (0 : Int32) = (0 : Int32))).1) (by decide) (by decide) ?_
   refine XS.aload X625.here hx rfl (hb hby at_407) rfl rfl ?_
   refine XS.aload X625.here hx rfl (hb hby at_409) rfl rfl ?_
   refine XS.aload X625.here hx rfl (hb hby at_411) rfl rfl ?_
   show SS p e below T625 m 413 #[vI p1, vI p2, vI p3, vI p4, vI p5, vI c5, vI c6, vI c7, vI c8, vI c9, vI c10, vI 1, vR b423, vR b445, vR x468, vR x470, vR b472, vR b550, vR b618, vI 1, vR el, .unset, .unset] [(.ref b445), (.ref b423), (.ref b618)] _
   refine st644.trans ?_
   refine XS.aload X644.here hx rfl (hb hby at_416) rfl rfl ?_
   show SS p e below T644 m 418 #[vI p1, vI p2, vI p3, vI p4, vI p5, vI c5, vI c6, vI c7, vI c8, vI c9, vI c10, vI 1, vR b423, vR b445, vR x468, vR x470, vR b472, vR b550, vR b618, vI 1, vR el, .unset, .unset] [(.ref b618)] _
   refine st672.trans ?_
   refine XS.istore X672.here hx rfl (hb hby at_421) rfl (l' := #[vI p1, vI p2, vI p3, vI p4, vI p5, vI c5, vI c6, vI c7, vI c8, vI c9, vI c10, vI 1, vR b423, vR b445, vR x468, vR x470, vR b472, vR b550, vR b618, vI 1, vR el, vI 0, .unset]) rfl ?_
   refine XS.iload X672.here hx rfl (hb hby at_423) rfl ?_
   refine XS.ifYes X672.here hx rfl (pc0 := 425) (pc' := 430) rfl (hb hby at_425) rfl ((if0 _ _).trans (teq (by decide : (0 : Int32) = (0 : Int32))).1) (by decide) (by decide) ?_
   refine XS.aload X672.here hx rfl (hb hby at_430) rfl rfl ?_
   refine XS.aload X672.here hx rfl (hb hby at_432) rfl rfl ?_
   refine XS.aload X672.here hx rfl (hb hby at_434) rfl rfl ?_
   show SS p e below T672 m 436 #[vI p1, vI p2, vI p3, vI p4, vI p5, vI c5, vI c6, vI c7, vI c8, vI c9, vI c10, vI 1, vR b423, vR b445, vR x468, vR x470, vR b472, vR b550, vR b618, vI 1, vR el, vI 0, .unset] [(.ref x470), (.ref x468), (.ref b618)] _
   refine st676.trans ?_
   refine XS.aload X676.here hx rfl (hb hby at_439) rfl rfl ?_
   show SS p e below T676 m 441 #[vI p1, vI p2, vI p3, vI p4, vI p5, vI c5, vI c6, vI c7, vI c8, vI c9, vI c10, vI 1, vR b423, vR b445, vR x468, vR x470, vR b472, vR b550, vR b618, vI 1, vR el, vI 0, .unset] [(.ref b618)] _
   refine st700.trans ?_
   refine XS.astore X700.here hx rfl (hb hby at_444) rfl rfl (l' := #[vI p1, vI p2, vI p3, vI p4, vI p5, vI c5, vI c6, vI c7, vI c8, vI c9, vI c10, vI 1, vR b423, vR b445, vR x468, vR x470, vR b472, vR b550, vR b618, vI 1, vR el, vI 0, vR x700]) rfl ?_
   refine XS.aload X700.here hx rfl (hb hby at_446) rfl rfl ?_
   show SS p e below T700 m 448 #[vI p1, vI p2, vI p3, vI p4, vI p5, vI c5, vI c6, vI c7, vI c8, vI c9, vI c10, vI 1, vR b423, vR b445, vR x468, vR x470, vR b472, vR b550, vR b618, vI 1, vR el, vI 0, vR x700] [(.ref x700)] _
   refine st705.trans ?_
   refine XS.iconst X705.here hx rfl (hb hby at_453) ?_
   refine XS.icmpYes X705.here hx rfl (pc0 := 454) (pc' := 459) rfl (hb hby at_454) rfl (teq (by decide : (2 : Int32) = (2 : Int32))).1 (by decide) (by decide) ?_
   refine XS.aload X705.here hx rfl (hb hby at_459) rfl rfl ?_
   refine XS.aload X705.here hx rfl (hb hby at_461) rfl rfl ?_
   refine XS.iconst X705.here hx rfl (hb hby at_463) ?_
   show SS p e below T705 m 464 #[vI p1, vI p2, vI p3, vI p4, vI p5, vI c5, vI c6, vI c7, vI c8, vI c9, vI c10, vI 1, vR b423, vR b445, vR x468, vR x470, vR b472, vR b550, vR b618, vI 1, vR el, vI 0, vR x700] [(.int 0), (.ref x700), (.ref b472)] _
   refine st707.trans ?_
   show SS p e below T707 m 469 #[vI p1, vI p2, vI p3, vI p4, vI p5, vI c5, vI c6, vI c7, vI c8, vI c9, vI c10, vI 1, vR b423, vR b445, vR x468, vR x470, vR b472, vR b550, vR b618, vI 1, vR el, vI 0, vR x700] [(.ref y644), (.ref b472)] _
   refine st708.trans ?_
   refine XS.ifNo X708.here hx rfl (hb hby at_472) rfl ((if0 _ _).trans (feq (by decide : ¬ ((1 : Int32) = (0 : Int32)))).1) ?_
   refine XS.aload X708.here hx rfl (hb hby at_475) rfl rfl ?_
   refine XS.aload X708.here hx rfl (hb hby at_477) rfl rfl ?_
   refine XS.iconst X708.here hx rfl (hb hby at_479) ?_
   show SS p e below T708 m 480 #[vI p1, vI p2, vI p3, vI p4, vI p5, vI c5, vI c6, vI c7, vI c8, vI c9, vI c10, vI 1, vR b423, vR b445, vR x468, vR x470, vR b472, vR b550, vR b618, vI 1, vR el, vI 0, vR x700] [(.int 1), (.ref x700), (.ref b550)] _
   refine st724.trans ?_
   show SS p e below T724 m 485 #[vI p1, vI p2, vI p3, vI p4, vI p5, vI c5, vI c6, vI c7, vI c8, vI c9, vI c10, vI 1, vR b423, vR b445, vR x468, vR x470, vR b472, vR b550, vR b618, vI 1, vR el, vI 0, vR x700] [(.ref y676), (.ref b550)] _
   refine st725.trans ?_
   refine XS.ifNo X725.here hx rfl (hb hby at_488) rfl ((if0 _ _).trans (feq (by decide : ¬ ((1 : Int32) = (0 : Int32)))).1) ?_
   refine XS.aload X725.here hx rfl (hb hby at_491) rfl rfl ?_
   show SS p e below T725 m 493 #[vI p1, vI p2, vI p3, vI p4, vI p5, vI c5, vI c6, vI c7, vI c8, vI c9, vI c10, vI 1, vR b423, vR b445, vR x468, vR x470, vR b472, vR b550, vR b618, vI 1, vR el, vI 0, vR x700] [(.ref b618)] _
   refine st736.trans ?_
   refine XS.ifNo X736.here hx rfl (hb hby at_496) rfl ((if0 _ _).trans (teq (by decide : (0 : Int32) = (0 : Int32))).2) ?_
   refine XS.iconst X736.here hx rfl (hb hby at_499) ?_
   refine XS.goto X736.here hx rfl (pc0 := 500) (pc' := 504) rfl (hb hby at_500) (by decide) (by decide) ?_
   show SS p e below T736 m 504 #[vI p1, vI p2, vI p3, vI p4, vI p5, vI c5, vI c6, vI c7, vI c8, vI c9, vI c10, vI 1, vR b423, vR b445, vR x468, vR x470, vR b472, vR b550, vR b618, vI 1, vR el, vI 0, vR x700] [(.int 1)] _
   exact retN X736 hx (t := .boolean) Bd.returns (by simp) (hb hby at_504) hr
  ·show Q_rm0 Z p1 p2 p3 p4 p5 cs0 dd el ea em mr kD kE h0 n0 _ T736.heap _
   rw [H736]
   exact ⟨rfl, N736⟩
theorem comes_1 {Post : Tables → Env → Array Value → State → Outcome → State → Prop} (hpost : ∀ tb e args s v u, (limb_1_1.after args s (.returned v) u = true ∧ limb_1_2.after args s (.returned v) u = true ∧ True) → ReturnedEndW s (.returned v) u (Jvm.fieldLocs frame_1_writes args s ++ Jvm.arrayLocs frame_1_arrays args s ++ Jvm.staticLocs frame_1_statics s) 72 3520 → Post tb e args s (.returned v) u) :
  ArmFor flags0 classFile x code maxLocals ret World_1 tables_1 room_1 Calls_1 rest_1 Pre_1 Post := by
 intro l hfl _ _ p e ha hc hk s m args below hf hA hF happ hP
 obtain ⟨hcalls, hrest, hpre⟩ := hP
 obtain ⟨-, -, -, hnamed, -, -, -, hat⟩ := (Spec.applies_iff hf).mp happ
 obtain ⟨hg, hn⟩ := and_e (Cond.before_iff.mp (show (Jvm.Cond.and given_1 narrow_1).before args s = true from hpre))
 obtain ⟨gc, g0⟩ := and_e hg
 obtain ⟨ga0, g1⟩ := and_e g0
 obtain ⟨ga1, g2⟩ := and_e g1
 obtain ⟨ga2, g3⟩ := and_e g2
 obtain ⟨ga3, g4⟩ := and_e g3
 have ga4 := g4
 obtain ⟨w0, w1, w2, w3, w4, rfl⟩ : ∃ w0 w1 w2 w3 w4 : Value, args = #[w0, w1, w2, w3, w4] := by
  have hs : args.size = 5 := by simpa [Cond.value, given_1] using gc
  obtain ⟨L⟩ := args
  match L, hs with
  | [w0, w1, w2, w3, w4], _ => exact ⟨w0, w1, w2, w3, w4, rfl⟩
 obtain ⟨i0, ei0⟩ := is_v ga0
 obtain rfl : w0 = (.int i0) := Option.some.inj ei0
 obtain ⟨i1, ei1⟩ := is_v ga1
 obtain rfl : w1 = (.int i1) := Option.some.inj ei1
 obtain ⟨i2, ei2⟩ := is_v ga2
 obtain rfl : w2 = (.int i2) := Option.some.inj ei2
 obtain ⟨i3, ei3⟩ := is_v ga3
 obtain rfl : w3 = (.int i3) := Option.some.inj ei3
 obtain ⟨i4, ei4⟩ := is_v ga4
 obtain rfl : w4 = (.int i4) := Option.some.inj ei4
 have hw := fun d (hd : d ∈ tables_1) => atoms_spec (ws := Jvm.Cond.code x code maxLocals ret :: tables_1) hat d (List.mem_cons_of_mem _ hd)
 have hfit : Fit s := fun {y c} hc i hi => by
  obtain ⟨ha, rfl⟩ := Array.getElem?_eq_some_iff.mp hc
  have q := List.all_eq_true.mp ((Array.all_eq_true_iff_forall_mem.mp hF) _ (Array.getElem_mem ha)) i (List.mem_range.mpr hi)
  simpa [Array.getElem?_eq_getElem hi] using q
 obtain ⟨hsets, hown0⟩ := atoms_of _ (rest_1_c_eq ▸ (show rest_1_c.before _ s = true from hrest))
 have n5 := not_v (Cond.before_iff.mp (hsets _ (List.mem_of_getElem? (i := 2) rfl)))
 obtain ⟨cs0, eCS⟩ := is_v (Cond.before_iff.mp (hsets _ (List.mem_of_getElem? (i := 1) rfl)))
 have S_CS : Sta s s.heap "java/lang/String" "COMPACT_STRINGS" "Z" (.int cs0) := Sta.start eCS (Or.inl (hsets _ (List.mem_of_getElem? (i := 0) rfl)))
 have c_CS : ¬ (cs0 = (0 : Int32)) := gotF (Cond.eq_ints eCS (Term.int_eval (0))) n5
 obtain ⟨dd, eDC⟩ := arr_v (Cond.before_iff.mp (hsets _ (List.mem_of_getElem? (i := 15) rfl)))
 have S_DC : Sta s s.heap "java/util/ArrayList" "DEFAULTCAPACITY_EMPTY_ELEMENTDATA" "[Ljava/lang/Object;" (.ref dd) := Sta.start eDC (Or.inr ⟨tw hw 56 rfl, (hsets _ (List.mem_of_getElem? (i := 11) rfl))⟩)
 obtain ⟨kD, V_DC⟩ := own_arv0 (d := .null) hfit eDC (Cond.before_iff.mp (hsets _ (List.mem_of_getElem? (i := 15) rfl))) (Cond.before_iff.mp (hsets _ (List.mem_of_getElem? (i := 17) rfl)))
 obtain ⟨el, eEL⟩ := exa_v (Cond.before_iff.mp (hsets _ (List.mem_of_getElem? (i := 20) rfl)))
 have S_EL : Sta s s.heap "java/util/ImmutableCollections" "EMPTY_LIST" "Ljava/util/ImmutableCollections$ListN;" (.ref el) := Sta.start eEL (Or.inl (hsets _ (List.mem_of_getElem? (i := 19) rfl)))
 have E_EL := Exa.start eEL (Cond.before_iff.mp (hsets _ (List.mem_of_getElem? (i := 20) rfl)))
 obtain ⟨ea, eEA⟩ := arr_v (Cond.before_iff.mp (hsets _ (List.mem_of_getElem? (i := 21) rfl)))
 have F_EL : Fld s s.heap el "java/util/ImmutableCollections$ListN" "elements" "[Ljava/lang/Object;" (.ref ea) := Fld.start ((fld_at eEL).symm.trans eEA)
 obtain ⟨kE, V_EL⟩ := own_arv0 (d := .null) hfit eEA (Cond.before_iff.mp (hsets _ (List.mem_of_getElem? (i := 21) rfl))) (Cond.before_iff.mp (hsets _ (List.mem_of_getElem? (i := 23) rfl)))
 obtain ⟨em, eEM⟩ := exa_v (Cond.before_iff.mp (hsets _ (List.mem_of_getElem? (i := 27) rfl)))
 have S_EM : Sta s s.heap "java/util/ImmutableCollections" "EMPTY" "Ljava/lang/Object;" (.ref em) := Sta.start eEM (Or.inl (hsets _ (List.mem_of_getElem? (i := 26) rfl)))
 have hem := (Exa.start eEM (Cond.before_iff.mp (hsets _ (List.mem_of_getElem? (i := 27) rfl)))).lt
 obtain ⟨cO, kO, mr, m1, m2, m3, -⟩ := hcalls.1
 have MR : Mrr s "[Ljava/lang/Object;" mr := ⟨cO, kO, m1, m2, m3⟩
 have wStr : ∀ d ∈ Bundle.stringAtoms, d.before _ s = true := fun d hd => hw d ((by decide +kernel : ∀ d ∈ Bundle.stringAtoms, d ∈ tables_1) d hd)
 have hEW : EW s _ EL1 := EW.cons (tw hw 159 rfl) (by decide) (EW.cons (tw hw 207 rfl) (by decide) (EW.cons (tw hw 44 rfl) (by decide) EW.nil))
 have hCH : CHv s EL1 s.vm s.heap := CHv.start hEW (fun p hp => hcalls.2.1 p hp) (hsets _ (List.mem_of_getElem? (i := 2) rfl)) (wStr _ (by simp [Bundle.stringAtoms])) (wStr _ (by simp [Bundle.stringAtoms, Bundle.sN]))
 obtain ⟨n, o, h1, h2, h3, _, L, rfl, ⟨rfl, N⟩, hq⟩ := rm0 l s _ hw tables_1 i0 i1 i2 i3 i4 cs0 dd el ea em mr kD kE s.heap s.heap.size (Old.start s) S_CS c_CS S_DC V_DC S_EL E_EL F_EL V_EL S_EM hem MR p e ha hc hk s m _ below hf ((Spec.applies_iff_loose hf).mp happ).1 ⟨rfl, State.Warmed39.refl s, rfl, hCH⟩ trivial
 obtain ⟨q1, q2, q3, q4⟩ := hq
 refine ⟨n, _, h1, h2, h3, hpost _ _ _ _ _ _ ⟨Cond.after_iff.mpr rfl, Cond.after_iff.mpr (eq_i res_at (Term.int_eval (1)) rfl), trivial⟩ ⟨q1, q2, q3, (q4.sift fun y hy => Or.inr (N y hy)).mono (by decide) (by decide)⟩⟩
theorem main_1_1 : Claimed_1_1 := comes_1 fun _ _ _ _ _ _ h hF => ⟨h.1, hF⟩
theorem main_1_2 : Claimed_1_2 := comes_1 fun _ _ _ _ _ _ h hF => ⟨h.2.1, hF⟩
end Jvm.Pilot.@@N@@
namespace Jvm.Pilot.@@N@@
open Jvm Jvm.ClassFile Sem Op Lib Jvm.Free Jvm.Stand Jvm.Pilot.@@N@@.Jvm.D
/-! MADE BY PROGRAM (witnessworld.py) out of the Statement's table words and the real class files: 42 classes; the members and pool entries that the words name. The judged class is class 1, her method 1. -/
namespace start1
open Jvm.ClassFile
def u (s : String) : CpInfo := .utf8 (stringToUtf16 s)
/-- a pool by its gaps: so many unusable entries, then the entry; so many at the end -/
def gap : Nat → List CpInfo → List CpInfo
  | 0, r => r
  | n + 1, r => .unusable :: gap n r
def poolList (es : List (Nat × CpInfo)) (last : Nat) : List CpInfo := es.foldr (fun e r => gap e.1 (e.2 :: r)) (gap last [])
def pool (es : List (Nat × CpInfo)) (last : Nat) : Array CpInfo := ⟨poolList es last⟩
def fileOf (pool : Array CpInfo) (this : Nat) (attrs : Array Attribute := #[]) (ms : Array MethodInfo := #[]) (fl : Nat := 33) (sup : Nat := 0) (ifs : Array Nat := #[]) (fds : Array FieldInfo := #[]) : ClassFile where
  minorVersion := 0
  majorVersion := 65
  constantPool := pool
  accessFlags := fl
  thisClass := this
  superClass := sup
  interfaces := ifs
  fields := fds
  methods := ms
  attributes := attrs
def plain (name : String) (sup : Option ClassId) : Class where
  name := name
  kind := .ordinary
  loader := none
  accessFlags := 33
  super := sup
  interfaces := #[]
  cf := none
  fields := #[]
  methods := #[]
  instanceTypes := #[]
  staticTypes := #[]
  resolved := #[]
  callSites := []
  init := .initialized
  statics := none
  mirror := none

def pool0 : Array CpInfo := pool [(5, u "<init>"), (0, u "()V"), (1, .class_ 10), (1, u "java/lang/Object"), (0, u "getClass"), (0, u "()Ljava/lang/Class;")] 111

def k0c0 : Code := { maxStack := 0, maxLocals := 1, code := object_method_1_code, exceptionTable := #[], attributes := #[] }
def k0m0 : Method := { name := "<init>", desc := "()V", sig := { parameters := [], returnType := none }, accessFlags := 1, code := some k0c0 }
def k0m1 : Method := { name := "getClass", desc := "()Ljava/lang/Class;", sig := { parameters := [], returnType := some (.object "java/lang/Class") }, accessFlags := 273, code := none }
/-- java/lang/Object -/
def k0 : Class := { plain "java/lang/Object" none with
  accessFlags := 33
  interfaces := #[]
  cf := some (fileOf pool0 8 #[] #[{ accessFlags := 1, nameIndex := 5, descriptorIndex := 6, attributes := #[] }, { accessFlags := 273, nameIndex := 11, descriptorIndex := 12, attributes := #[] }] 33 0 #[] #[])
  fields := #[]
  methods := #[k0m0, k0m1]
  instanceTypes := #[]
  staticTypes := #[]
  resolved := Array.replicate 124 none
  statics := none }

def pool1 : Array CpInfo := pool [(2, .class_ 4), (0, .nameAndType 5 6), (0, u "java/lang/Object"), (0, u "<init>"), (0, u "()V"), (0, .class_ 8), (0, u "java/lang/String"), (0, .methodref 7 10), (0, .nameAndType 5 11), (0, u "([C)V"), (0, .methodref 7 13), (0, .nameAndType 14 15), (0, u "valueOf"), (0, u "(C)Ljava/lang/String;"), (0, .string 17), (0, u ""), (0, .class_ 19), (0, u "com/example/nroute/nroute/route/Mistakes"), (0, .methodref 18 3), (0, .methodref 18 22), (0, .nameAndType 23 24), (0, u "isEmpty"), (0, u "()Z"), (0, .methodref 18 26), (0, .nameAndType 27 28), (0, u "lines"), (0, u "()Ljava/util/List;"), (0, .interfaceMethodref 30 31), (0, .class_ 32), (0, .nameAndType 33 34), (0, u "java/util/List"), (0, u "size"), (0, u "()I"), (0, .methodref 18 36), (0, .nameAndType 37 38), (0, u "add"), (0, u "(Ljava/lang/String;Ljava/lang/String;)V"), (0, .interfaceMethodref 30 40), (0, .nameAndType 41 42), (0, u "get"), (0, u "(I)Ljava/lang/Object;"), (0, .methodref 7 44), (0, .nameAndType 45 46), (0, u "equals"), (0, u "(Ljava/lang/Object;)Z"), (0, .class_ 48), (0, u "com/example/nroute/nroute/route/MistakesAddPinLaw"), (2, u "law"), (0, u "(IIIII)Z")] 3

def k1m0 : Method := { name := "<init>", desc := "()V", sig := { parameters := [], returnType := none }, accessFlags := 1, code := none }
def k1c1 : Code := { maxStack := 6, maxLocals := 23, code := code, exceptionTable := #[], attributes := #[] }
def k1m1 : Method := { name := "law", desc := "(IIIII)Z", sig := { parameters := [.int, .int, .int, .int, .int], returnType := some .boolean }, accessFlags := 9, code := some k1c1 }
/-- com/example/nroute/nroute/route/MistakesAddPinLaw -/
def k1 : Class := { plain "com/example/nroute/nroute/route/MistakesAddPinLaw" (some 0) with
  accessFlags := 49
  interfaces := #[]
  cf := some (fileOf pool1 47 #[] #[{ accessFlags := 1, nameIndex := 5, descriptorIndex := 6, attributes := #[] }, { accessFlags := 9, nameIndex := 51, descriptorIndex := 52, attributes := #[] }] 49 2 #[] #[])
  fields := #[]
  methods := #[k1m0, k1m1]
  instanceTypes := #[]
  staticTypes := #[]
  resolved := Array.replicate 56 none
  statics := none }

def pool2 : Array CpInfo := pool [(1, .class_ 2), (0, u "java/io/Serializable"), (0, .class_ 4), (0, u "java/lang/Object")] 2

/-- java/io/Serializable -/
def k2 : Class := { plain "java/io/Serializable" (some 0) with
  accessFlags := 1537
  interfaces := #[]
  cf := some (fileOf pool2 1 #[] #[] 1537 3 #[] #[])
  fields := #[]
  methods := #[]
  instanceTypes := #[]
  staticTypes := #[]
  resolved := Array.replicate 7 none
  statics := none }

def pool3 : Array CpInfo := pool [(1, .class_ 2), (0, u "java/lang/Comparable"), (0, .class_ 4), (0, u "java/lang/Object")] 7

/-- java/lang/Comparable -/
def k3 : Class := { plain "java/lang/Comparable" (some 0) with
  accessFlags := 1537
  interfaces := #[]
  cf := some (fileOf pool3 1 #[] #[] 1537 3 #[] #[])
  fields := #[]
  methods := #[]
  instanceTypes := #[]
  staticTypes := #[]
  resolved := Array.replicate 12 none
  statics := none }

def pool4 : Array CpInfo := pool [(2, .class_ 4), (1, u "java/lang/CharSequence"), (42, .class_ 48), (0, u "java/lang/CharSequence$1CodePointIterator"), (10, .class_ 60), (0, u "java/lang/CharSequence$1CharIterator"), (5, .class_ 67), (0, u "java/lang/Object")] 63

/-- java/lang/CharSequence -/
def k4 : Class := { plain "java/lang/CharSequence" (some 0) with
  accessFlags := 1537
  interfaces := #[]
  cf := some (fileOf pool4 2 #[.nestMembers #[47, 59]] #[] 1537 66 #[] #[])
  fields := #[]
  methods := #[]
  instanceTypes := #[]
  staticTypes := #[]
  resolved := Array.replicate 131 none
  statics := none }

def pool5 : Array CpInfo := pool [(1, .class_ 2), (0, u "java/lang/constant/Constable"), (0, .class_ 4), (0, u "java/lang/Object")] 6

/-- java/lang/constant/Constable -/
def k5 : Class := { plain "java/lang/constant/Constable" (some 0) with
  accessFlags := 1537
  interfaces := #[]
  cf := some (fileOf pool5 1 #[] #[] 1537 3 #[] #[])
  fields := #[]
  methods := #[]
  instanceTypes := #[]
  staticTypes := #[]
  resolved := Array.replicate 11 none
  statics := none }

def pool6 : Array CpInfo := pool [(1, .class_ 2), (0, u "java/lang/constant/ConstantDesc"), (0, .class_ 4), (0, u "java/lang/Object")] 32

/-- java/lang/constant/ConstantDesc -/
def k6 : Class := { plain "java/lang/constant/ConstantDesc" (some 0) with
  accessFlags := 1537
  interfaces := #[]
  cf := some (fileOf pool6 1 #[] #[] 1537 3 #[] #[])
  fields := #[]
  methods := #[]
  instanceTypes := #[]
  staticTypes := #[]
  resolved := Array.replicate 37 none
  statics := none }

def pool7 : Array CpInfo := pool [(1, .methodref 2 3), (0, .class_ 4), (0, .nameAndType 5 6), (0, u "java/lang/Object"), (0, u "<init>"), (0, u "()V"), (2, .fieldref 10 11), (0, .class_ 12), (0, .nameAndType 13 14), (0, u "java/lang/String"), (0, u "value"), (0, u "[B"), (0, .fieldref 10 16), (0, .nameAndType 17 18), (0, u "coder"), (0, u "B"), (2, u "hash"), (0, u "I"), (2, u "hashIsZero"), (0, u "Z"), (0, .methodref 10 28), (0, .nameAndType 5 29), (0, u "([CIILjava/lang/Void;)V"), (8, .fieldref 10 39), (0, .nameAndType 40 26), (0, u "COMPACT_STRINGS"), (1, .class_ 44), (1, u "java/lang/StringUTF16"), (0, u "compress"), (1, .methodref 42 48), (0, .nameAndType 49 50), (0, u "coderFromArrayLen"), (0, u "([BI)B"), (2, u "toBytes"), (0, .methodref 55 56), (0, .class_ 57), (0, .nameAndType 58 59), (0, u "java/util/Arrays"), (0, u "copyOfRange"), (0, u "([BII)[B"), (47, .class_ 109), (1, u "java/lang/StringLatin1"), (32, u "()Z"), (34, .methodref 42 178), (0, .nameAndType 45 179), (0, u "([CII)[B"), (13, .class_ 195), (1, u "java/lang/System"), (13, .methodref 10 210), (0, .nameAndType 5 211), (0, u "([BB)V"), (0, .methodref 193 213), (0, .nameAndType 214 215), (0, u "arraycopy"), (0, u "(Ljava/lang/Object;ILjava/lang/Object;II)V"), (118, u "()I"), (0, .methodref 10 336), (0, .nameAndType 17 337), (0, u "()B"), (2, u "()[B"), (28, u "(C)Z"), (119, .methodref 10 490), (0, .nameAndType 5 491), (0, u "(Ljava/lang/AbstractStringBuilder;Ljava/lang/Void;)V"), (1, .nameAndType 494 142), (0, u "isLatin1"), (11, .nameAndType 507 334), (0, u "length"), (24, u "getBytes"), (8, .methodref 107 542), (0, .nameAndType 543 544), (0, u "equals"), (0, u "([B[B)Z"), (4, .methodref 550 506), (0, .class_ 551), (0, u "java/lang/AbstractStringBuilder"), (0, .methodref 550 553), (0, .nameAndType 554 340), (0, u "getValue"), (18, u "(Ljava/lang/Object;)Z"), (1, .class_ 576), (0, u "java/lang/CharSequence"), (22, u "CASE_INSENSITIVE_ORDER"), (0, u "Ljava/util/Comparator;"), (181, u "valueOf"), (0, u "(C)Ljava/lang/String;"), (37, u "([BIB)V"), (188, u "([C)V"), (4, .methodref 107 1016), (0, .nameAndType 1017 369), (0, u "canEncode"), (0, .methodref 107 1019), (0, .nameAndType 53 1020), (0, u "(C)[B"), (26, .methodref 550 493), (53, u "serialPersistentFields"), (0, u "[Ljava/io/ObjectStreamField;"), (0, .class_ 1104), (0, u "java/lang/String$CaseInsensitiveComparator"), (1, .class_ 1107), (0, u "java/io/Serializable"), (0, .class_ 1109), (0, u "java/lang/Comparable"), (0, .class_ 1111), (0, u "java/lang/constant/Constable"), (0, .class_ 1113), (0, u "java/lang/constant/ConstantDesc"), (2, u "serialVersionUID"), (0, u "J"), (3, u "REPL"), (0, u "C"), (2, u "LATIN1"), (1, u "UTF16"), (105, u "(Ljava/lang/StringBuilder;)V")] 217

def k7m0 : Method := { name := "<init>", desc := "()V", sig := { parameters := [], returnType := none }, accessFlags := 1, code := none }
def k7c1 : Code := { maxStack := 5, maxLocals := 2, code := jdk_42_method_3_code, exceptionTable := #[], attributes := #[] }
def k7m1 : Method := { name := "<init>", desc := "([C)V", sig := { parameters := [(.array .char)], returnType := none }, accessFlags := 1, code := some k7c1 }
def k7c2 : Code := { maxStack := 3, maxLocals := 2, code := jdk_42_method_53_code, exceptionTable := #[], attributes := #[] }
def k7m2 : Method := { name := "<init>", desc := "(Ljava/lang/StringBuilder;)V", sig := { parameters := [(.object "java/lang/StringBuilder")], returnType := none }, accessFlags := 1, code := some k7c2 }
def k7c3 : Code := { maxStack := 2, maxLocals := 1, code := jdk_42_method_54_code, exceptionTable := #[], attributes := #[] }
def k7m3 : Method := { name := "length", desc := "()I", sig := { parameters := [], returnType := some .int }, accessFlags := 1, code := some k7c3 }
def k7c4 : Code := { maxStack := 2, maxLocals := 3, code := jdk_42_method_66_code, exceptionTable := #[], attributes := #[] }
def k7m4 : Method := { name := "equals", desc := "(Ljava/lang/Object;)Z", sig := { parameters := [(.object "java/lang/Object")], returnType := some .boolean }, accessFlags := 1, code := some k7c4 }
def k7c5 : Code := { maxStack := 4, maxLocals := 1, code := jdk_42_method_139_code, exceptionTable := #[], attributes := #[] }
def k7m5 : Method := { name := "valueOf", desc := "(C)Ljava/lang/String;", sig := { parameters := [.char], returnType := some (.object "java/lang/String") }, accessFlags := 9, code := some k7c5 }
def k7c6 : Code := { maxStack := 5, maxLocals := 4, code := jdk_42_method_147_code, exceptionTable := #[], attributes := #[] }
def k7m6 : Method := { name := "getBytes", desc := "([BIB)V", sig := { parameters := [(.array .byte), .int, .byte], returnType := none }, accessFlags := 0, code := some k7c6 }
def k7c7 : Code := { maxStack := 4, maxLocals := 6, code := jdk_42_method_149_code, exceptionTable := #[], attributes := #[] }
def k7m7 : Method := { name := "<init>", desc := "([CIILjava/lang/Void;)V", sig := { parameters := [(.array .char), .int, .int, (.object "java/lang/Void")], returnType := none }, accessFlags := 2, code := some k7c7 }
def k7c8 : Code := { maxStack := 5, maxLocals := 5, code := jdk_42_method_150_code, exceptionTable := #[], attributes := #[] }
def k7m8 : Method := { name := "<init>", desc := "(Ljava/lang/AbstractStringBuilder;Ljava/lang/Void;)V", sig := { parameters := [(.object "java/lang/AbstractStringBuilder"), (.object "java/lang/Void")], returnType := none }, accessFlags := 0, code := some k7c8 }
def k7c9 : Code := { maxStack := 2, maxLocals := 3, code := jdk_42_method_151_code, exceptionTable := #[], attributes := #[] }
def k7m9 : Method := { name := "<init>", desc := "([BB)V", sig := { parameters := [(.array .byte), .byte], returnType := none }, accessFlags := 0, code := some k7c9 }
def k7c10 : Code := { maxStack := 1, maxLocals := 1, code := jdk_42_method_152_code, exceptionTable := #[], attributes := #[] }
def k7m10 : Method := { name := "coder", desc := "()B", sig := { parameters := [], returnType := some .byte }, accessFlags := 0, code := some k7c10 }
/-- java/lang/String -/
def k7 : Class := { plain "java/lang/String" (some 0) with
  accessFlags := 49
  interfaces := #[2, 3, 4, 5, 6]
  cf := some (fileOf pool7 10 #[.nestMembers #[1103]] #[{ accessFlags := 1, nameIndex := 5, descriptorIndex := 6, attributes := #[] }, { accessFlags := 1, nameIndex := 5, descriptorIndex := 1010, attributes := #[] }, { accessFlags := 1, nameIndex := 5, descriptorIndex := 1233, attributes := #[] }, { accessFlags := 1, nameIndex := 507, descriptorIndex := 334, attributes := #[] }, { accessFlags := 1, nameIndex := 543, descriptorIndex := 573, attributes := #[] }, { accessFlags := 9, nameIndex := 782, descriptorIndex := 783, attributes := #[] }, { accessFlags := 0, nameIndex := 532, descriptorIndex := 821, attributes := #[] }, { accessFlags := 2, nameIndex := 5, descriptorIndex := 29, attributes := #[] }, { accessFlags := 0, nameIndex := 5, descriptorIndex := 491, attributes := #[] }, { accessFlags := 0, nameIndex := 5, descriptorIndex := 211, attributes := #[] }, { accessFlags := 0, nameIndex := 17, descriptorIndex := 337, attributes := #[] }] 49 2 #[1106, 1108, 575, 1110, 1112] #[{ accessFlags := 18, nameIndex := 13, descriptorIndex := 14, attributes := #[] }, { accessFlags := 18, nameIndex := 17, descriptorIndex := 18, attributes := #[] }, { accessFlags := 2, nameIndex := 21, descriptorIndex := 22, attributes := #[] }, { accessFlags := 2, nameIndex := 25, descriptorIndex := 26, attributes := #[] }, { accessFlags := 26, nameIndex := 1116, descriptorIndex := 1117, attributes := #[] }, { accessFlags := 24, nameIndex := 40, descriptorIndex := 26, attributes := #[] }, { accessFlags := 26, nameIndex := 1101, descriptorIndex := 1102, attributes := #[] }, { accessFlags := 26, nameIndex := 1121, descriptorIndex := 1122, attributes := #[] }, { accessFlags := 25, nameIndex := 599, descriptorIndex := 600, attributes := #[] }, { accessFlags := 24, nameIndex := 1125, descriptorIndex := 18, attributes := #[] }, { accessFlags := 24, nameIndex := 1127, descriptorIndex := 18, attributes := #[] }])
  fields := #[{ name := "value", type := (.array .byte), accessFlags := 18, slot := 0, constantValue := 0 }, { name := "coder", type := .byte, accessFlags := 18, slot := 1, constantValue := 0 }, { name := "hash", type := .int, accessFlags := 2, slot := 2, constantValue := 0 }, { name := "hashIsZero", type := .boolean, accessFlags := 2, slot := 3, constantValue := 0 }, { name := "serialVersionUID", type := .long, accessFlags := 26, slot := 0, constantValue := 0 }, { name := "COMPACT_STRINGS", type := .boolean, accessFlags := 24, slot := 1, constantValue := 0 }, { name := "serialPersistentFields", type := (.array (.object "java/io/ObjectStreamField")), accessFlags := 26, slot := 2, constantValue := 0 }, { name := "REPL", type := .char, accessFlags := 26, slot := 3, constantValue := 0 }, { name := "CASE_INSENSITIVE_ORDER", type := (.object "java/util/Comparator"), accessFlags := 25, slot := 4, constantValue := 0 }, { name := "LATIN1", type := .byte, accessFlags := 24, slot := 5, constantValue := 0 }, { name := "UTF16", type := .byte, accessFlags := 24, slot := 6, constantValue := 0 }]
  methods := #[k7m0, k7m1, k7m2, k7m3, k7m4, k7m5, k7m6, k7m7, k7m8, k7m9, k7m10]
  instanceTypes := #[(.array .byte), .byte, .int, .boolean]
  staticTypes := #[.long, .boolean, (.array (.object "java/io/ObjectStreamField")), .char, (.object "java/util/Comparator"), .byte, .byte]
  resolved := Array.replicate 1451 none
  statics := some 0 }

def pool8 : Array CpInfo := pool [(6, .class_ 8), (1, u "java/lang/Object"), (0, u "<init>"), (0, u "()V"), (1, .class_ 14), (1, u "java/lang/StringUTF16"), (31, u "$assertionsDisabled"), (0, u "Z"), (13, u "HI_BYTE_SHIFT"), (0, u "I"), (2, u "LO_BYTE_SHIFT"), (49, .methodref 12 116), (0, .nameAndType 117 118), (0, u "compress"), (0, u "([CI[BII)I"), (3, u "([CII)[B"), (138, u "coderFromArrayLen"), (0, u "([BI)B"), (106, .class_ 371), (1, u "java/lang/StringUTF16$LinesSpliterator"), (58, u "MAX_LENGTH"), (196, .class_ 628), (0, u "java/lang/StringUTF16$CodePointsSpliterator"), (0, .class_ 630), (0, u "java/lang/StringUTF16$CharsSpliterator")] 4

def k8m0 : Method := { name := "<init>", desc := "()V", sig := { parameters := [], returnType := none }, accessFlags := 0, code := none }
def k8c1 : Code := { maxStack := 2, maxLocals := 2, code := jdk_52_method_15_code, exceptionTable := #[], attributes := #[] }
def k8m1 : Method := { name := "coderFromArrayLen", desc := "([BI)B", sig := { parameters := [(.array .byte), .int], returnType := some .byte }, accessFlags := 8, code := some k8c1 }
def k8c2 : Code := { maxStack := 5, maxLocals := 6, code := jdk_52_method_16_code, exceptionTable := #[], attributes := #[] }
def k8m2 : Method := { name := "compress", desc := "([CII)[B", sig := { parameters := [(.array .char), .int, .int], returnType := some (.array .byte) }, accessFlags := 9, code := some k8c2 }
def k8c3 : Code := { maxStack := 3, maxLocals := 7, code := jdk_52_method_21_code, exceptionTable := #[], attributes := #[] }
def k8m3 : Method := { name := "compress", desc := "([CI[BII)I", sig := { parameters := [(.array .char), .int, (.array .byte), .int, .int], returnType := some .int }, accessFlags := 9, code := some k8c3 }
/-- java/lang/StringUTF16 -/
def k8 : Class := { plain "java/lang/StringUTF16" (some 0) with
  accessFlags := 48
  interfaces := #[]
  cf := some (fileOf pool8 12 #[.nestMembers #[627, 629, 369]] #[{ accessFlags := 0, nameIndex := 9, descriptorIndex := 10, attributes := #[] }, { accessFlags := 8, nameIndex := 261, descriptorIndex := 262, attributes := #[] }, { accessFlags := 9, nameIndex := 117, descriptorIndex := 122, attributes := #[] }, { accessFlags := 9, nameIndex := 117, descriptorIndex := 118, attributes := #[] }] 48 6 #[] #[{ accessFlags := 26, nameIndex := 61, descriptorIndex := 62, attributes := #[] }, { accessFlags := 26, nameIndex := 65, descriptorIndex := 62, attributes := #[] }, { accessFlags := 24, nameIndex := 430, descriptorIndex := 62, attributes := #[] }, { accessFlags := 4120, nameIndex := 46, descriptorIndex := 47, attributes := #[] }])
  fields := #[{ name := "HI_BYTE_SHIFT", type := .int, accessFlags := 26, slot := 0, constantValue := 0 }, { name := "LO_BYTE_SHIFT", type := .int, accessFlags := 26, slot := 1, constantValue := 0 }, { name := "MAX_LENGTH", type := .int, accessFlags := 24, slot := 2, constantValue := 0 }, { name := "$assertionsDisabled", type := .boolean, accessFlags := 4120, slot := 3, constantValue := 0 }]
  methods := #[k8m0, k8m1, k8m2, k8m3]
  instanceTypes := #[]
  staticTypes := #[.int, .int, .int, .boolean]
  resolved := Array.replicate 635 none
  statics := none }

def pool9 : Array CpInfo := pool [(4, .class_ 6), (1, u "java/lang/Object"), (0, u "<init>"), (0, u "()V"), (5, .class_ 16), (1, u "java/lang/StringLatin1"), (73, u "canEncode"), (14, u "(C)Z"), (15, u "$assertionsDisabled"), (0, u "Z"), (98, .class_ 223), (1, u "java/lang/StringLatin1$LinesSpliterator"), (57, u "equals"), (0, u "([B[B)Z"), (97, u "toBytes"), (1, u "(C)[B"), (7, .class_ 391), (0, u "java/lang/StringLatin1$CharsSpliterator")] 3

def k9m0 : Method := { name := "<init>", desc := "()V", sig := { parameters := [], returnType := none }, accessFlags := 0, code := none }
def k9c1 : Code := { maxStack := 2, maxLocals := 1, code := jdk_43_method_3_code, exceptionTable := #[], attributes := #[] }
def k9m1 : Method := { name := "canEncode", desc := "(C)Z", sig := { parameters := [.char], returnType := some .boolean }, accessFlags := 9, code := some k9c1 }
def k9c2 : Code := { maxStack := 3, maxLocals := 3, code := jdk_43_method_13_code, exceptionTable := #[], attributes := #[] }
def k9m2 : Method := { name := "equals", desc := "([B[B)Z", sig := { parameters := [(.array .byte), (.array .byte)], returnType := some .boolean }, accessFlags := 9, code := some k9c2 }
def k9c3 : Code := { maxStack := 4, maxLocals := 1, code := jdk_43_method_46_code, exceptionTable := #[], attributes := #[] }
def k9m3 : Method := { name := "toBytes", desc := "(C)[B", sig := { parameters := [.char], returnType := some (.array .byte) }, accessFlags := 9, code := some k9c3 }
/-- java/lang/StringLatin1 -/
def k9 : Class := { plain "java/lang/StringLatin1" (some 0) with
  accessFlags := 48
  interfaces := #[]
  cf := some (fileOf pool9 14 #[.nestMembers #[390, 221]] #[{ accessFlags := 0, nameIndex := 7, descriptorIndex := 8, attributes := #[] }, { accessFlags := 9, nameIndex := 90, descriptorIndex := 105, attributes := #[] }, { accessFlags := 9, nameIndex := 281, descriptorIndex := 282, attributes := #[] }, { accessFlags := 9, nameIndex := 380, descriptorIndex := 382, attributes := #[] }] 48 4 #[] #[{ accessFlags := 4120, nameIndex := 121, descriptorIndex := 122, attributes := #[] }])
  fields := #[{ name := "$assertionsDisabled", type := .boolean, accessFlags := 4120, slot := 0, constantValue := 0 }]
  methods := #[k9m0, k9m1, k9m2, k9m3]
  instanceTypes := #[]
  staticTypes := #[.boolean]
  resolved := Array.replicate 395 none
  statics := none }

def pool10 : Array CpInfo := pool [(1, .methodref 2 3), (0, .class_ 4), (0, .nameAndType 5 6), (0, u "java/lang/Object"), (0, u "<init>"), (0, u "()V"), (0, .class_ 8), (0, u "java/util/ArrayList"), (0, .methodref 7 3), (0, .fieldref 11 12), (0, .class_ 13), (0, .nameAndType 14 15), (0, u "com/example/nroute/nroute/route/Mistakes"), (0, u "lines"), (0, u "Ljava/util/List;"), (0, .class_ 17), (0, u "java/lang/StringBuilder"), (0, .methodref 16 3), (0, .string 20), (0, u "error["), (0, .methodref 16 22), (0, .nameAndType 23 24), (0, u "append"), (0, u "(Ljava/lang/String;)Ljava/lang/StringBuilder;"), (0, .string 26), (0, u "]: "), (0, .methodref 16 28), (0, .nameAndType 29 30), (0, u "toString"), (0, u "()Ljava/lang/String;"), (0, .interfaceMethodref 32 33), (0, .class_ 34), (0, .nameAndType 35 36), (0, u "java/util/List"), (0, u "add"), (0, u "(Ljava/lang/Object;)Z"), (0, .interfaceMethodref 32 38), (0, .nameAndType 39 40), (0, u "isEmpty"), (0, u "()Z"), (0, .interfaceMethodref 32 42), (0, .nameAndType 43 44), (0, u "copyOf"), (0, u "(Ljava/util/Collection;)Ljava/util/List;"), (4, u "(Ljava/lang/String;Ljava/lang/String;)V"), (0, u "()Ljava/util/List;")] 3

def k10c0 : Code := { maxStack := 3, maxLocals := 1, code := prog_26_method_1_code, exceptionTable := #[], attributes := #[] }
def k10m0 : Method := { name := "<init>", desc := "()V", sig := { parameters := [], returnType := none }, accessFlags := 1, code := some k10c0 }
def k10c1 : Code := { maxStack := 3, maxLocals := 3, code := prog_26_method_2_code, exceptionTable := #[], attributes := #[] }
def k10m1 : Method := { name := "add", desc := "(Ljava/lang/String;Ljava/lang/String;)V", sig := { parameters := [(.object "java/lang/String"), (.object "java/lang/String")], returnType := none }, accessFlags := 1, code := some k10c1 }
def k10c2 : Code := { maxStack := 1, maxLocals := 1, code := prog_26_method_3_code, exceptionTable := #[], attributes := #[] }
def k10m2 : Method := { name := "isEmpty", desc := "()Z", sig := { parameters := [], returnType := some .boolean }, accessFlags := 1, code := some k10c2 }
def k10c3 : Code := { maxStack := 1, maxLocals := 1, code := prog_26_method_4_code, exceptionTable := #[], attributes := #[] }
def k10m3 : Method := { name := "lines", desc := "()Ljava/util/List;", sig := { parameters := [], returnType := some (.object "java/util/List") }, accessFlags := 1, code := some k10c3 }
/-- com/example/nroute/nroute/route/Mistakes -/
def k10 : Class := { plain "com/example/nroute/nroute/route/Mistakes" (some 0) with
  accessFlags := 33
  interfaces := #[]
  cf := some (fileOf pool10 11 #[] #[{ accessFlags := 1, nameIndex := 5, descriptorIndex := 6, attributes := #[] }, { accessFlags := 1, nameIndex := 35, descriptorIndex := 49, attributes := #[] }, { accessFlags := 1, nameIndex := 39, descriptorIndex := 40, attributes := #[] }, { accessFlags := 1, nameIndex := 14, descriptorIndex := 50, attributes := #[] }] 33 2 #[] #[{ accessFlags := 18, nameIndex := 14, descriptorIndex := 15, attributes := #[] }])
  fields := #[{ name := "lines", type := (.object "java/util/List"), accessFlags := 18, slot := 0, constantValue := 0 }]
  methods := #[k10m0, k10m1, k10m2, k10m3]
  instanceTypes := #[(.object "java/util/List")]
  staticTypes := #[]
  resolved := Array.replicate 54 none
  statics := none }

def pool11 : Array CpInfo := pool [(8, .class_ 10), (1, u "java/lang/Iterable"), (24, .class_ 36), (0, u "java/lang/Object")] 25

/-- java/lang/Iterable -/
def k11 : Class := { plain "java/lang/Iterable" (some 0) with
  accessFlags := 1537
  interfaces := #[]
  cf := some (fileOf pool11 8 #[] #[] 1537 35 #[] #[])
  fields := #[]
  methods := #[]
  instanceTypes := #[]
  staticTypes := #[]
  resolved := Array.replicate 62 none
  statics := none }

def pool12 : Array CpInfo := pool [(10, .class_ 12), (1, u "java/util/Collection"), (0, u "toArray"), (16, u "()Z"), (29, .class_ 61), (0, u "java/lang/Object"), (0, .class_ 63), (0, u "java/lang/Iterable"), (2, u "isEmpty"), (3, u "()[Ljava/lang/Object;")] 44

def k12m0 : Method := { name := "isEmpty", desc := "()Z", sig := { parameters := [], returnType := some .boolean }, accessFlags := 1025, code := none }
def k12m1 : Method := { name := "toArray", desc := "()[Ljava/lang/Object;", sig := { parameters := [], returnType := some (.array (.object "java/lang/Object")) }, accessFlags := 1025, code := none }
/-- java/util/Collection -/
def k12 : Class := { plain "java/util/Collection" (some 0) with
  accessFlags := 1537
  interfaces := #[11]
  cf := some (fileOf pool12 10 #[] #[{ accessFlags := 1025, nameIndex := 66, descriptorIndex := 30, attributes := #[] }, { accessFlags := 1025, nameIndex := 13, descriptorIndex := 70, attributes := #[] }] 1537 60 #[62] #[])
  fields := #[]
  methods := #[k12m0, k12m1]
  instanceTypes := #[]
  staticTypes := #[]
  resolved := Array.replicate 115 none
  statics := none }

def pool13 : Array CpInfo := pool [(1, .methodref 2 3), (0, .class_ 4), (0, .nameAndType 5 6), (0, u "java/lang/Object"), (0, u "<init>"), (0, u "()V"), (1, .class_ 10), (1, u "java/util/AbstractCollection"), (66, .class_ 78), (0, u "java/util/Collection")] 81

def k13c0 : Code := { maxStack := 1, maxLocals := 1, code := jdk_22_method_1_code, exceptionTable := #[], attributes := #[] }
def k13m0 : Method := { name := "<init>", desc := "()V", sig := { parameters := [], returnType := none }, accessFlags := 4, code := some k13c0 }
/-- java/util/AbstractCollection -/
def k13 : Class := { plain "java/util/AbstractCollection" (some 0) with
  accessFlags := 1057
  interfaces := #[12]
  cf := some (fileOf pool13 8 #[] #[{ accessFlags := 4, nameIndex := 5, descriptorIndex := 6, attributes := #[] }] 1057 2 #[77] #[])
  fields := #[]
  methods := #[k13m0]
  instanceTypes := #[]
  staticTypes := #[]
  resolved := Array.replicate 160 none
  statics := none }

def pool14 : Array CpInfo := pool [(8, .class_ 10), (1, u "java/util/SequencedCollection"), (15, .class_ 27), (0, u "java/lang/Object"), (0, .class_ 29), (0, u "java/util/Collection")] 27

/-- java/util/SequencedCollection -/
def k14 : Class := { plain "java/util/SequencedCollection" (some 0) with
  accessFlags := 1537
  interfaces := #[12]
  cf := some (fileOf pool14 8 #[] #[] 1537 26 #[28] #[])
  fields := #[]
  methods := #[]
  instanceTypes := #[]
  staticTypes := #[]
  resolved := Array.replicate 57 none
  statics := none }

def pool15 : Array CpInfo := pool [(8, .class_ 10), (1, u "java/util/List"), (7, u "()Z"), (29, u "<init>"), (11, u "add"), (3, u "(Ljava/lang/Object;)Z"), (2, u "isEmpty"), (7, u "get"), (0, u "(I)Ljava/lang/Object;"), (2, u "size"), (0, u "()I"), (7, u "of"), (1, .fieldref 91 92), (0, .class_ 93), (0, .nameAndType 94 95), (0, u "java/util/ImmutableCollections"), (0, u "EMPTY_LIST"), (0, u "Ljava/util/ImmutableCollections$ListN;"), (0, .class_ 97), (0, u "java/util/ImmutableCollections$List12"), (2, .methodref 96 101), (0, .nameAndType 48 102), (0, u "(Ljava/lang/Object;Ljava/lang/Object;)V"), (0, .class_ 104), (0, u "java/lang/Object"), (3, u "([Ljava/lang/Object;)Ljava/util/List;"), (3, .methodref 91 113), (0, .nameAndType 114 115), (0, u "listCopy"), (0, u "(Ljava/util/Collection;)Ljava/util/List;"), (3, u "()Ljava/util/List;"), (0, .class_ 121), (0, u "java/util/SequencedCollection"), (112, u "copyOf")] 16

def k15m0 : Method := { name := "size", desc := "()I", sig := { parameters := [], returnType := some .int }, accessFlags := 1025, code := none }
def k15m1 : Method := { name := "isEmpty", desc := "()Z", sig := { parameters := [], returnType := some .boolean }, accessFlags := 1025, code := none }
def k15m2 : Method := { name := "add", desc := "(Ljava/lang/Object;)Z", sig := { parameters := [(.object "java/lang/Object")], returnType := some .boolean }, accessFlags := 1025, code := none }
def k15m3 : Method := { name := "get", desc := "(I)Ljava/lang/Object;", sig := { parameters := [.int], returnType := some (.object "java/lang/Object") }, accessFlags := 1025, code := none }
def k15c4 : Code := { maxStack := 1, maxLocals := 0, code := jdk_40_method_36_code, exceptionTable := #[], attributes := #[] }
def k15m4 : Method := { name := "of", desc := "()Ljava/util/List;", sig := { parameters := [], returnType := some (.object "java/util/List") }, accessFlags := 9, code := some k15c4 }
def k15c5 : Code := { maxStack := 5, maxLocals := 2, code := jdk_40_method_47_code, exceptionTable := #[], attributes := #[] }
def k15m5 : Method := { name := "of", desc := "([Ljava/lang/Object;)Ljava/util/List;", sig := { parameters := [(.array (.object "java/lang/Object"))], returnType := some (.object "java/util/List") }, accessFlags := 137, code := some k15c5 }
def k15c6 : Code := { maxStack := 1, maxLocals := 1, code := jdk_40_method_48_code, exceptionTable := #[], attributes := #[] }
def k15m6 : Method := { name := "copyOf", desc := "(Ljava/util/Collection;)Ljava/util/List;", sig := { parameters := [(.object "java/util/Collection")], returnType := some (.object "java/util/List") }, accessFlags := 9, code := some k15c6 }
/-- java/util/List -/
def k15 : Class := { plain "java/util/List" (some 0) with
  accessFlags := 1537
  interfaces := #[14]
  cf := some (fileOf pool15 8 #[] #[{ accessFlags := 1025, nameIndex := 79, descriptorIndex := 80, attributes := #[] }, { accessFlags := 1025, nameIndex := 67, descriptorIndex := 18, attributes := #[] }, { accessFlags := 1025, nameIndex := 60, descriptorIndex := 64, attributes := #[] }, { accessFlags := 1025, nameIndex := 75, descriptorIndex := 76, attributes := #[] }, { accessFlags := 9, nameIndex := 88, descriptorIndex := 119, attributes := #[] }, { accessFlags := 137, nameIndex := 88, descriptorIndex := 108, attributes := #[] }, { accessFlags := 9, nameIndex := 234, descriptorIndex := 115, attributes := #[] }] 1537 103 #[120] #[])
  fields := #[]
  methods := #[k15m0, k15m1, k15m2, k15m3, k15m4, k15m5, k15m6]
  instanceTypes := #[]
  staticTypes := #[]
  resolved := Array.replicate 251 none
  statics := none }

def pool16 : Array CpInfo := pool [(1, .methodref 2 3), (0, .class_ 4), (0, .nameAndType 5 6), (0, u "java/util/AbstractCollection"), (0, u "<init>"), (0, u "()V"), (0, .fieldref 8 9), (0, .class_ 10), (0, .nameAndType 11 12), (0, u "java/util/AbstractList"), (0, u "modCount"), (0, u "I"), (64, .class_ 78), (0, u "java/util/AbstractList$Itr"), (3, .class_ 83), (0, u "java/util/AbstractList$ListItr"), (9, .class_ 94), (0, u "java/util/AbstractList$RandomAccessSubList"), (3, .class_ 99), (0, u "java/util/AbstractList$SubList"), (33, .class_ 134), (0, u "java/util/List"), (73, .class_ 209), (0, u "java/util/AbstractList$SubList$1"), (0, .class_ 211), (0, u "java/util/AbstractList$RandomAccessSpliterator")] 6

def k16c0 : Code := { maxStack := 2, maxLocals := 1, code := jdk_39_method_1_code, exceptionTable := #[], attributes := #[] }
def k16m0 : Method := { name := "<init>", desc := "()V", sig := { parameters := [], returnType := none }, accessFlags := 4, code := some k16c0 }
/-- java/util/AbstractList -/
def k16 : Class := { plain "java/util/AbstractList" (some 13) with
  accessFlags := 1057
  interfaces := #[15]
  cf := some (fileOf pool16 8 #[.nestMembers #[93, 98, 208, 210, 82, 77]] #[{ accessFlags := 4, nameIndex := 5, descriptorIndex := 6, attributes := #[] }] 1057 2 #[133] #[{ accessFlags := 132, nameIndex := 11, descriptorIndex := 12, attributes := #[] }])
  fields := #[{ name := "modCount", type := .int, accessFlags := 132, slot := 0, constantValue := 0 }]
  methods := #[k16m0]
  instanceTypes := #[.int]
  staticTypes := #[]
  resolved := Array.replicate 218 none
  statics := none }

def pool17 : Array CpInfo := pool [(1, .class_ 2), (0, u "java/util/RandomAccess"), (0, .class_ 4), (0, u "java/lang/Object")] 2

/-- java/util/RandomAccess -/
def k17 : Class := { plain "java/util/RandomAccess" (some 0) with
  accessFlags := 1537
  interfaces := #[]
  cf := some (fileOf pool17 1 #[] #[] 1537 3 #[] #[])
  fields := #[]
  methods := #[]
  instanceTypes := #[]
  staticTypes := #[]
  resolved := Array.replicate 7 none
  statics := none }

def pool18 : Array CpInfo := pool [(1, .class_ 2), (0, u "java/lang/Cloneable"), (0, .class_ 4), (0, u "java/lang/Object")] 2

/-- java/lang/Cloneable -/
def k18 : Class := { plain "java/lang/Cloneable" (some 0) with
  accessFlags := 1537
  interfaces := #[]
  cf := some (fileOf pool18 1 #[] #[] 1537 3 #[] #[])
  fields := #[]
  methods := #[]
  instanceTypes := #[]
  staticTypes := #[]
  resolved := Array.replicate 7 none
  statics := none }

def pool19 : Array CpInfo := pool [(1, .methodref 2 3), (0, .class_ 4), (0, .nameAndType 5 6), (0, u "java/util/AbstractList"), (0, u "<init>"), (0, u "()V"), (0, .class_ 8), (0, u "java/lang/Object"), (0, .fieldref 10 11), (0, .class_ 12), (0, .nameAndType 13 14), (0, u "java/util/ArrayList"), (0, u "elementData"), (0, u "[Ljava/lang/Object;"), (2, u "EMPTY_ELEMENTDATA"), (21, .fieldref 10 40), (0, .nameAndType 41 14), (0, u "DEFAULTCAPACITY_EMPTY_ELEMENTDATA"), (4, u "toArray"), (0, u "()[Ljava/lang/Object;"), (0, .fieldref 10 49), (0, .nameAndType 50 51), (0, u "size"), (0, u "I"), (6, .class_ 60), (1, u "java/util/Arrays"), (0, u "copyOf"), (1, .fieldref 10 64), (0, .nameAndType 65 51), (0, u "modCount"), (0, .methodref 58 67), (0, .nameAndType 61 68), (0, u "([Ljava/lang/Object;I)[Ljava/lang/Object;"), (0, .methodref 10 70), (0, .nameAndType 71 72), (0, u "grow"), (0, u "(I)[Ljava/lang/Object;"), (6, .methodref 80 81), (0, .class_ 82), (0, .nameAndType 83 84), (0, u "java/lang/Math"), (0, u "max"), (0, u "(II)I"), (11, u "(Ljava/lang/Object;)Z"), (32, .methodref 10 130), (0, .nameAndType 71 47), (0, .methodref 10 132), (0, .nameAndType 133 134), (0, u "add"), (0, u "(Ljava/lang/Object;[Ljava/lang/Object;I)V"), (13, .class_ 149), (0, u "java/util/List"), (23, u "()Z"), (88, .class_ 263), (0, u "java/util/ArrayList$ListItr"), (3, .class_ 268), (0, u "java/util/ArrayList$Itr"), (7, .class_ 277), (0, u "java/util/ArrayList$SubList"), (12, .class_ 291), (0, u "java/util/ArrayList$ArrayListSpliterator"), (37, .class_ 330), (0, u "java/util/RandomAccess"), (0, .class_ 332), (0, u "java/lang/Cloneable"), (0, .class_ 334), (0, u "java/io/Serializable"), (0, u "serialVersionUID"), (0, u "J"), (3, u "DEFAULT_CAPACITY"), (22, u "isEmpty"), (136, .class_ 501), (0, u "java/util/ArrayList$SubList$2"), (0, .class_ 503), (0, u "java/util/ArrayList$SubList$1")] 5

def k19c0 : Code := { maxStack := 2, maxLocals := 1, code := jdk_38_method_2_code, exceptionTable := #[], attributes := #[] }
def k19m0 : Method := { name := "<init>", desc := "()V", sig := { parameters := [], returnType := none }, accessFlags := 1, code := some k19c0 }
def k19c1 : Code := { maxStack := 4, maxLocals := 4, code := jdk_38_method_6_code, exceptionTable := #[], attributes := #[] }
def k19m1 : Method := { name := "grow", desc := "(I)[Ljava/lang/Object;", sig := { parameters := [.int], returnType := some (.array (.object "java/lang/Object")) }, accessFlags := 2, code := some k19c1 }
def k19c2 : Code := { maxStack := 3, maxLocals := 1, code := jdk_38_method_7_code, exceptionTable := #[], attributes := #[] }
def k19m2 : Method := { name := "grow", desc := "()[Ljava/lang/Object;", sig := { parameters := [], returnType := some (.array (.object "java/lang/Object")) }, accessFlags := 2, code := some k19c2 }
def k19c3 : Code := { maxStack := 1, maxLocals := 1, code := jdk_38_method_9_code, exceptionTable := #[], attributes := #[] }
def k19m3 : Method := { name := "isEmpty", desc := "()Z", sig := { parameters := [], returnType := some .boolean }, accessFlags := 1, code := some k19c3 }
def k19c4 : Code := { maxStack := 2, maxLocals := 1, code := jdk_38_method_16_code, exceptionTable := #[], attributes := #[] }
def k19m4 : Method := { name := "toArray", desc := "()[Ljava/lang/Object;", sig := { parameters := [], returnType := some (.array (.object "java/lang/Object")) }, accessFlags := 1, code := some k19c4 }
def k19c5 : Code := { maxStack := 3, maxLocals := 4, code := jdk_38_method_24_code, exceptionTable := #[], attributes := #[] }
def k19m5 : Method := { name := "add", desc := "(Ljava/lang/Object;[Ljava/lang/Object;I)V", sig := { parameters := [(.object "java/lang/Object"), (.array (.object "java/lang/Object")), .int], returnType := none }, accessFlags := 2, code := some k19c5 }
def k19c6 : Code := { maxStack := 4, maxLocals := 2, code := jdk_38_method_25_code, exceptionTable := #[], attributes := #[] }
def k19m6 : Method := { name := "add", desc := "(Ljava/lang/Object;)Z", sig := { parameters := [(.object "java/lang/Object")], returnType := some .boolean }, accessFlags := 1, code := some k19c6 }
/-- java/util/ArrayList -/
def k19 : Class := { plain "java/util/ArrayList" (some 16) with
  accessFlags := 33
  interfaces := #[15, 17, 18, 2]
  cf := some (fileOf pool19 10 #[.nestMembers #[290, 276, 500, 502, 262, 267]] #[{ accessFlags := 1, nameIndex := 5, descriptorIndex := 6, attributes := #[] }, { accessFlags := 2, nameIndex := 71, descriptorIndex := 72, attributes := #[] }, { accessFlags := 2, nameIndex := 71, descriptorIndex := 47, attributes := #[] }, { accessFlags := 1, nameIndex := 363, descriptorIndex := 173, attributes := #[] }, { accessFlags := 1, nameIndex := 46, descriptorIndex := 47, attributes := #[] }, { accessFlags := 2, nameIndex := 133, descriptorIndex := 134, attributes := #[] }, { accessFlags := 1, nameIndex := 133, descriptorIndex := 96, attributes := #[] }] 33 2 #[148, 329, 331, 333] #[{ accessFlags := 26, nameIndex := 335, descriptorIndex := 336, attributes := #[] }, { accessFlags := 26, nameIndex := 340, descriptorIndex := 51, attributes := #[] }, { accessFlags := 26, nameIndex := 17, descriptorIndex := 14, attributes := #[] }, { accessFlags := 26, nameIndex := 41, descriptorIndex := 14, attributes := #[] }, { accessFlags := 128, nameIndex := 13, descriptorIndex := 14, attributes := #[] }, { accessFlags := 2, nameIndex := 50, descriptorIndex := 51, attributes := #[] }])
  fields := #[{ name := "serialVersionUID", type := .long, accessFlags := 26, slot := 0, constantValue := 0 }, { name := "DEFAULT_CAPACITY", type := .int, accessFlags := 26, slot := 1, constantValue := 0 }, { name := "EMPTY_ELEMENTDATA", type := (.array (.object "java/lang/Object")), accessFlags := 26, slot := 2, constantValue := 0 }, { name := "DEFAULTCAPACITY_EMPTY_ELEMENTDATA", type := (.array (.object "java/lang/Object")), accessFlags := 26, slot := 3, constantValue := 0 }, { name := "elementData", type := (.array (.object "java/lang/Object")), accessFlags := 128, slot := 1, constantValue := 0 }, { name := "size", type := .int, accessFlags := 2, slot := 2, constantValue := 0 }]
  methods := #[k19m0, k19m1, k19m2, k19m3, k19m4, k19m5, k19m6]
  instanceTypes := #[.int, (.array (.object "java/lang/Object")), .int]
  staticTypes := #[.long, .int, (.array (.object "java/lang/Object")), (.array (.object "java/lang/Object"))]
  resolved := Array.replicate 509 none
  statics := some 1 }

def pool20 : Array CpInfo := pool [(2, .class_ 4), (1, u "java/lang/Object"), (0, u "<init>"), (0, u "()V"), (3, .class_ 11), (0, u "java/util/ImmutableCollections$List12"), (0, .class_ 13), (0, u "java/util/ImmutableCollections$ListN"), (3, u "Z"), (0, .class_ 19), (0, u "java/util/List"), (0, .interfaceMethodref 21 22), (0, .class_ 23), (0, .nameAndType 24 25), (0, u "java/util/Collection"), (0, u "isEmpty"), (0, u "()Z"), (0, .interfaceMethodref 18 27), (0, .nameAndType 28 29), (0, u "of"), (0, u "()Ljava/util/List;"), (0, .interfaceMethodref 21 31), (0, .nameAndType 32 33), (0, u "toArray"), (0, u "()[Ljava/lang/Object;"), (0, .interfaceMethodref 18 35), (0, .nameAndType 28 36), (0, u "([Ljava/lang/Object;)Ljava/util/List;"), (10, .class_ 49), (1, u "java/util/ImmutableCollections"), (0, u "$assertionsDisabled"), (5, u "[Ljava/lang/Object;"), (5, u "EMPTY_LIST"), (0, u "Ljava/util/ImmutableCollections$ListN;"), (8, u "EMPTY_LIST_NULLS"), (22, u "SALT32L"), (0, u "J"), (2, u "REVERSE"), (6, u "archivedObjects"), (2, u "EMPTY"), (0, u "Ljava/lang/Object;"), (0, .class_ 112), (0, u "java/util/ImmutableCollections$SetN"), (5, u "EMPTY_SET"), (0, u "Ljava/util/ImmutableCollections$SetN;"), (0, .class_ 121), (0, u "java/util/ImmutableCollections$MapN"), (3, u "EMPTY_MAP"), (0, u "Ljava/util/ImmutableCollections$MapN;"), (4, u "EXPAND_FACTOR"), (0, u "I"), (9, u "listCopy"), (0, u "(Ljava/util/Collection;)Ljava/util/List;"), (25, .class_ 170), (0, u "java/util/ImmutableCollections$MapN$MapNIterator"), (0, .class_ 172), (0, u "java/util/ImmutableCollections$MapN$1"), (0, .class_ 174), (0, u "java/util/ImmutableCollections$Map1"), (0, .class_ 176), (0, u "java/util/ImmutableCollections$AbstractImmutableMap"), (0, .class_ 178), (0, u "java/util/ImmutableCollections$SetN$SetNIterator"), (0, .class_ 180), (0, u "java/util/ImmutableCollections$Set12"), (0, .class_ 182), (0, u "java/util/ImmutableCollections$Set12$1"), (0, .class_ 184), (0, u "java/util/ImmutableCollections$AbstractImmutableSet"), (0, .class_ 186), (0, u "java/util/ImmutableCollections$SubList"), (0, .class_ 188), (0, u "java/util/ImmutableCollections$ListItr"), (0, .class_ 190), (0, u "java/util/ImmutableCollections$AbstractImmutableList"), (0, .class_ 192), (0, u "java/util/ImmutableCollections$AbstractImmutableCollection"), (0, .class_ 194), (0, u "java/util/ImmutableCollections$Access"), (0, .class_ 196), (0, u "java/util/ImmutableCollections$Access$1")] 16

def k20m0 : Method := { name := "<init>", desc := "()V", sig := { parameters := [], returnType := none }, accessFlags := 2, code := none }
def k20c1 : Code := { maxStack := 1, maxLocals := 2, code := jdk_56_method_3_code, exceptionTable := #[], attributes := #[] }
def k20m1 : Method := { name := "listCopy", desc := "(Ljava/util/Collection;)Ljava/util/List;", sig := { parameters := [(.object "java/util/Collection")], returnType := some (.object "java/util/List") }, accessFlags := 8, code := some k20c1 }
/-- java/util/ImmutableCollections -/
def k20 : Class := { plain "java/util/ImmutableCollections" (some 0) with
  accessFlags := 32
  interfaces := #[]
  cf := some (fileOf pool20 47 #[.nestMembers #[120, 169, 171, 173, 175, 111, 177, 179, 181, 183, 12, 10, 185, 187, 189, 191, 193, 195]] #[{ accessFlags := 2, nameIndex := 5, descriptorIndex := 6, attributes := #[] }, { accessFlags := 8, nameIndex := 142, descriptorIndex := 143, attributes := #[] }] 32 2 #[] #[{ accessFlags := 26, nameIndex := 95, descriptorIndex := 96, attributes := #[] }, { accessFlags := 26, nameIndex := 99, descriptorIndex := 17, attributes := #[] }, { accessFlags := 10, nameIndex := 106, descriptorIndex := 56, attributes := #[] }, { accessFlags := 26, nameIndex := 109, descriptorIndex := 110, attributes := #[] }, { accessFlags := 24, nameIndex := 62, descriptorIndex := 63, attributes := #[] }, { accessFlags := 24, nameIndex := 72, descriptorIndex := 63, attributes := #[] }, { accessFlags := 24, nameIndex := 118, descriptorIndex := 119, attributes := #[] }, { accessFlags := 24, nameIndex := 125, descriptorIndex := 126, attributes := #[] }, { accessFlags := 24, nameIndex := 131, descriptorIndex := 132, attributes := #[] }, { accessFlags := 4120, nameIndex := 50, descriptorIndex := 17, attributes := #[] }])
  fields := #[{ name := "SALT32L", type := .long, accessFlags := 26, slot := 0, constantValue := 0 }, { name := "REVERSE", type := .boolean, accessFlags := 26, slot := 1, constantValue := 0 }, { name := "archivedObjects", type := (.array (.object "java/lang/Object")), accessFlags := 10, slot := 2, constantValue := 0 }, { name := "EMPTY", type := (.object "java/lang/Object"), accessFlags := 26, slot := 3, constantValue := 0 }, { name := "EMPTY_LIST", type := (.object "java/util/ImmutableCollections$ListN"), accessFlags := 24, slot := 4, constantValue := 0 }, { name := "EMPTY_LIST_NULLS", type := (.object "java/util/ImmutableCollections$ListN"), accessFlags := 24, slot := 5, constantValue := 0 }, { name := "EMPTY_SET", type := (.object "java/util/ImmutableCollections$SetN"), accessFlags := 24, slot := 6, constantValue := 0 }, { name := "EMPTY_MAP", type := (.object "java/util/ImmutableCollections$MapN"), accessFlags := 24, slot := 7, constantValue := 0 }, { name := "EXPAND_FACTOR", type := .int, accessFlags := 24, slot := 8, constantValue := 0 }, { name := "$assertionsDisabled", type := .boolean, accessFlags := 4120, slot := 9, constantValue := 0 }]
  methods := #[k20m0, k20m1]
  instanceTypes := #[]
  staticTypes := #[.long, .boolean, (.array (.object "java/lang/Object")), (.object "java/lang/Object"), (.object "java/util/ImmutableCollections$ListN"), (.object "java/util/ImmutableCollections$ListN"), (.object "java/util/ImmutableCollections$SetN"), (.object "java/util/ImmutableCollections$MapN"), .int, .boolean]
  resolved := Array.replicate 213 none
  statics := some 2 }

def pool21 : Array CpInfo := pool [(1, .methodref 2 3), (0, .class_ 4), (0, .nameAndType 5 6), (0, u "java/util/AbstractCollection"), (0, u "<init>"), (0, u "()V"), (1, .class_ 10), (1, u "java/util/ImmutableCollections"), (2, .class_ 14), (0, u "java/util/ImmutableCollections$AbstractImmutableCollection")] 41

def k21c0 : Code := { maxStack := 1, maxLocals := 1, code := jdk_47_method_1_code, exceptionTable := #[], attributes := #[] }
def k21m0 : Method := { name := "<init>", desc := "()V", sig := { parameters := [], returnType := none }, accessFlags := 0, code := some k21c0 }
/-- java/util/ImmutableCollections$AbstractImmutableCollection -/
def k21 : Class := { plain "java/util/ImmutableCollections$AbstractImmutableCollection" (some 13) with
  accessFlags := 1056
  interfaces := #[]
  cf := some (fileOf pool21 13 #[.nestHost 8] #[{ accessFlags := 0, nameIndex := 5, descriptorIndex := 6, attributes := #[] }] 1056 2 #[] #[])
  fields := #[]
  methods := #[k21m0]
  instanceTypes := #[]
  staticTypes := #[]
  resolved := Array.replicate 56 none
  statics := none }

def pool22 : Array CpInfo := pool [(1, .methodref 2 3), (0, .class_ 4), (0, .nameAndType 5 6), (0, u "java/util/ImmutableCollections$AbstractImmutableCollection"), (0, u "<init>"), (0, u "()V"), (1, .class_ 10), (1, u "java/util/ImmutableCollections"), (3, .class_ 16), (1, u "java/util/ImmutableCollections$AbstractImmutableList"), (60, .class_ 78), (0, u "java/util/List"), (45, .class_ 125), (0, u "java/util/RandomAccess")] 70

def k22c0 : Code := { maxStack := 1, maxLocals := 1, code := jdk_46_method_1_code, exceptionTable := #[], attributes := #[] }
def k22m0 : Method := { name := "<init>", desc := "()V", sig := { parameters := [], returnType := none }, accessFlags := 0, code := some k22c0 }
/-- java/util/ImmutableCollections$AbstractImmutableList -/
def k22 : Class := { plain "java/util/ImmutableCollections$AbstractImmutableList" (some 21) with
  accessFlags := 1056
  interfaces := #[15, 17]
  cf := some (fileOf pool22 14 #[.nestHost 8] #[{ accessFlags := 0, nameIndex := 5, descriptorIndex := 6, attributes := #[] }] 1056 2 #[77, 124] #[])
  fields := #[]
  methods := #[k22m0]
  instanceTypes := #[]
  staticTypes := #[]
  resolved := Array.replicate 196 none
  statics := none }

def pool23 : Array CpInfo := pool [(1, .methodref 2 3), (0, .class_ 4), (0, .nameAndType 5 6), (0, u "java/util/ImmutableCollections$AbstractImmutableList"), (0, u "<init>"), (0, u "()V"), (0, .methodref 8 9), (0, .class_ 10), (0, .nameAndType 11 12), (0, u "java/util/Objects"), (0, u "requireNonNull"), (0, u "(Ljava/lang/Object;)Ljava/lang/Object;"), (0, .fieldref 14 15), (0, .class_ 16), (0, .nameAndType 17 18), (0, u "java/util/ImmutableCollections$List12"), (0, u "e0"), (0, u "Ljava/lang/Object;"), (0, .fieldref 20 21), (0, .class_ 22), (0, .nameAndType 23 18), (0, u "java/util/ImmutableCollections"), (0, u "EMPTY"), (0, .fieldref 14 25), (0, .nameAndType 26 18), (0, u "e1"), (24, u "size"), (0, u "()I"), (17, .class_ 71), (0, u "java/io/Serializable"), (13, u "(Ljava/lang/Object;Ljava/lang/Object;)V"), (4, u "get"), (0, u "(I)Ljava/lang/Object;")] 33

def k23c0 : Code := { maxStack := 2, maxLocals := 3, code := jdk_44_method_2_code, exceptionTable := #[], attributes := #[] }
def k23m0 : Method := { name := "<init>", desc := "(Ljava/lang/Object;Ljava/lang/Object;)V", sig := { parameters := [(.object "java/lang/Object"), (.object "java/lang/Object")], returnType := none }, accessFlags := 0, code := some k23c0 }
def k23c1 : Code := { maxStack := 2, maxLocals := 1, code := jdk_44_method_3_code, exceptionTable := #[], attributes := #[] }
def k23m1 : Method := { name := "size", desc := "()I", sig := { parameters := [], returnType := some .int }, accessFlags := 1, code := some k23c1 }
def k23c2 : Code := { maxStack := 2, maxLocals := 2, code := jdk_44_method_5_code, exceptionTable := #[], attributes := #[] }
def k23m2 : Method := { name := "get", desc := "(I)Ljava/lang/Object;", sig := { parameters := [.int], returnType := some (.object "java/lang/Object") }, accessFlags := 1, code := some k23c2 }
/-- java/util/ImmutableCollections$List12 -/
def k23 : Class := { plain "java/util/ImmutableCollections$List12" (some 22) with
  accessFlags := 48
  interfaces := #[2]
  cf := some (fileOf pool23 14 #[.nestHost 20] #[{ accessFlags := 0, nameIndex := 5, descriptorIndex := 85, attributes := #[] }, { accessFlags := 1, nameIndex := 51, descriptorIndex := 52, attributes := #[] }, { accessFlags := 1, nameIndex := 90, descriptorIndex := 91, attributes := #[] }] 48 2 #[70] #[{ accessFlags := 18, nameIndex := 17, descriptorIndex := 18, attributes := #[] }, { accessFlags := 18, nameIndex := 26, descriptorIndex := 18, attributes := #[] }])
  fields := #[{ name := "e0", type := (.object "java/lang/Object"), accessFlags := 18, slot := 0, constantValue := 0 }, { name := "e1", type := (.object "java/lang/Object"), accessFlags := 18, slot := 1, constantValue := 0 }]
  methods := #[k23m0, k23m1, k23m2]
  instanceTypes := #[(.object "java/lang/Object"), (.object "java/lang/Object")]
  staticTypes := #[]
  resolved := Array.replicate 125 none
  statics := none }

def pool24 : Array CpInfo := pool [(2, .class_ 4), (1, u "java/util/ImmutableCollections$AbstractImmutableList"), (2, .fieldref 8 9), (0, .class_ 10), (0, .nameAndType 11 12), (0, u "java/util/ImmutableCollections$ListN"), (0, u "elements"), (0, u "[Ljava/lang/Object;"), (2, u "allowNulls"), (0, u "Z"), (42, .class_ 60), (0, u "java/io/Serializable"), (16, u "size"), (0, u "()I"), (35, .class_ 115), (0, u "java/util/ImmutableCollections")] 3

def k24c0 : Code := { maxStack := 1, maxLocals := 1, code := jdk_45_method_3_code, exceptionTable := #[], attributes := #[] }
def k24m0 : Method := { name := "size", desc := "()I", sig := { parameters := [], returnType := some .int }, accessFlags := 1, code := some k24c0 }
/-- java/util/ImmutableCollections$ListN -/
def k24 : Class := { plain "java/util/ImmutableCollections$ListN" (some 22) with
  accessFlags := 48
  interfaces := #[2]
  cf := some (fileOf pool24 8 #[.nestHost 114] #[{ accessFlags := 1, nameIndex := 77, descriptorIndex := 78, attributes := #[] }] 48 2 #[59] #[{ accessFlags := 18, nameIndex := 11, descriptorIndex := 12, attributes := #[] }, { accessFlags := 18, nameIndex := 15, descriptorIndex := 16, attributes := #[] }])
  fields := #[{ name := "elements", type := (.array (.object "java/lang/Object")), accessFlags := 18, slot := 0, constantValue := 0 }, { name := "allowNulls", type := .boolean, accessFlags := 18, slot := 1, constantValue := 0 }]
  methods := #[k24m0]
  instanceTypes := #[(.array (.object "java/lang/Object")), .boolean]
  staticTypes := #[]
  resolved := Array.replicate 119 none
  statics := none }

def pool25 : Array CpInfo := pool [(1, .class_ 2), (0, u "java/lang/Appendable"), (0, .class_ 4), (0, u "java/lang/Object")] 9

/-- java/lang/Appendable -/
def k25 : Class := { plain "java/lang/Appendable" (some 0) with
  accessFlags := 1537
  interfaces := #[]
  cf := some (fileOf pool25 1 #[] #[] 1537 3 #[] #[])
  fields := #[]
  methods := #[]
  instanceTypes := #[]
  staticTypes := #[]
  resolved := Array.replicate 14 none
  statics := none }

def pool26 : Array CpInfo := pool [(1, .class_ 2), (0, u "java/lang/String"), (0, .methodref 4 5), (0, .class_ 6), (0, .nameAndType 7 8), (0, u "java/lang/Object"), (0, u "<init>"), (0, u "()V"), (1, .class_ 12), (1, u "java/lang/AbstractStringBuilder"), (0, u "EMPTYVALUE"), (0, u "[B"), (0, .fieldref 10 16), (0, .nameAndType 17 14), (0, u "value"), (0, .fieldref 1 19), (0, .nameAndType 20 21), (0, u "COMPACT_STRINGS"), (0, u "Z"), (0, .fieldref 10 23), (0, .nameAndType 24 25), (0, u "coder"), (0, u "B"), (6, .methodref 1 33), (0, .nameAndType 34 35), (0, u "length"), (0, u "()I"), (4, .methodref 1 41), (0, .nameAndType 24 42), (0, u "()B"), (2, u "append"), (0, u "(Ljava/lang/String;)Ljava/lang/AbstractStringBuilder;"), (1, .class_ 49), (0, u "java/lang/CharSequence"), (19, u "(Ljava/lang/String;)V"), (5, u "maybeLatin1"), (3, .fieldref 10 80), (0, .nameAndType 81 82), (0, u "count"), (0, u "I"), (2, u "isLatin1"), (0, u "()Z"), (13, .methodref 10 101), (0, .nameAndType 102 103), (0, u "ensureCapacityInternal"), (0, u "(I)V"), (104, .methodref 10 209), (0, .nameAndType 210 211), (0, u "putStringAt"), (0, u "(ILjava/lang/String;)V"), (5, u "inflateIfNeededFor"), (2, .nameAndType 221 222), (0, u "getBytes"), (0, u "([BIB)V"), (174, .methodref 10 398), (0, .nameAndType 217 69), (0, .methodref 1 220), (3, u "()[B"), (40, .class_ 445), (0, u "java/lang/Appendable"), (106, u "getValue")] 56

def k26m0 : Method := { name := "<init>", desc := "()V", sig := { parameters := [], returnType := none }, accessFlags := 0, code := none }
def k26c1 : Code := { maxStack := 2, maxLocals := 2, code := jdk_68_method_2_code, exceptionTable := #[], attributes := #[] }
def k26m1 : Method := { name := "<init>", desc := "(I)V", sig := { parameters := [.int], returnType := none }, accessFlags := 0, code := some k26c1 }
def k26c2 : Code := { maxStack := 1, maxLocals := 1, code := jdk_68_method_6_code, exceptionTable := #[], attributes := #[] }
def k26m2 : Method := { name := "length", desc := "()I", sig := { parameters := [], returnType := some .int }, accessFlags := 1, code := some k26c2 }
def k26c3 : Code := { maxStack := 4, maxLocals := 3, code := jdk_68_method_9_code, exceptionTable := #[], attributes := #[] }
def k26m3 : Method := { name := "ensureCapacityInternal", desc := "(I)V", sig := { parameters := [.int], returnType := none }, accessFlags := 2, code := some k26c3 }
def k26c4 : Code := { maxStack := 3, maxLocals := 3, code := jdk_68_method_22_code, exceptionTable := #[], attributes := #[] }
def k26m4 : Method := { name := "append", desc := "(Ljava/lang/String;)Ljava/lang/AbstractStringBuilder;", sig := { parameters := [(.object "java/lang/String")], returnType := some (.object "java/lang/AbstractStringBuilder") }, accessFlags := 1, code := some k26c4 }
def k26c5 : Code := { maxStack := 1, maxLocals := 1, code := jdk_68_method_64_code, exceptionTable := #[], attributes := #[] }
def k26m5 : Method := { name := "getValue", desc := "()[B", sig := { parameters := [], returnType := some (.array .byte) }, accessFlags := 16, code := some k26c5 }
def k26c6 : Code := { maxStack := 1, maxLocals := 1, code := jdk_68_method_68_code, exceptionTable := #[], attributes := #[] }
def k26m6 : Method := { name := "isLatin1", desc := "()Z", sig := { parameters := [], returnType := some .boolean }, accessFlags := 16, code := some k26c6 }
def k26c7 : Code := { maxStack := 2, maxLocals := 2, code := jdk_68_method_71_code, exceptionTable := #[], attributes := #[] }
def k26m7 : Method := { name := "inflateIfNeededFor", desc := "(Ljava/lang/String;)V", sig := { parameters := [(.object "java/lang/String")], returnType := none }, accessFlags := 2, code := some k26c7 }
def k26c8 : Code := { maxStack := 4, maxLocals := 3, code := jdk_68_method_73_code, exceptionTable := #[], attributes := #[] }
def k26m8 : Method := { name := "putStringAt", desc := "(ILjava/lang/String;)V", sig := { parameters := [.int, (.object "java/lang/String")], returnType := none }, accessFlags := 2, code := some k26c8 }
/-- java/lang/AbstractStringBuilder -/
def k26 : Class := { plain "java/lang/AbstractStringBuilder" (some 0) with
  accessFlags := 1056
  interfaces := #[25, 4]
  cf := some (fileOf pool26 10 #[] #[{ accessFlags := 0, nameIndex := 7, descriptorIndex := 8, attributes := #[] }, { accessFlags := 0, nameIndex := 7, descriptorIndex := 103, attributes := #[] }, { accessFlags := 1, nameIndex := 34, descriptorIndex := 35, attributes := #[] }, { accessFlags := 2, nameIndex := 102, descriptorIndex := 103, attributes := #[] }, { accessFlags := 1, nameIndex := 45, descriptorIndex := 46, attributes := #[] }, { accessFlags := 16, nameIndex := 552, descriptorIndex := 403, attributes := #[] }, { accessFlags := 16, nameIndex := 85, descriptorIndex := 86, attributes := #[] }, { accessFlags := 2, nameIndex := 217, descriptorIndex := 69, attributes := #[] }, { accessFlags := 2, nameIndex := 210, descriptorIndex := 211, attributes := #[] }] 1056 4 #[444, 48] #[{ accessFlags := 0, nameIndex := 17, descriptorIndex := 14, attributes := #[] }, { accessFlags := 0, nameIndex := 24, descriptorIndex := 25, attributes := #[] }, { accessFlags := 0, nameIndex := 75, descriptorIndex := 21, attributes := #[] }, { accessFlags := 0, nameIndex := 81, descriptorIndex := 82, attributes := #[] }, { accessFlags := 26, nameIndex := 13, descriptorIndex := 14, attributes := #[] }])
  fields := #[{ name := "value", type := (.array .byte), accessFlags := 0, slot := 0, constantValue := 0 }, { name := "coder", type := .byte, accessFlags := 0, slot := 1, constantValue := 0 }, { name := "maybeLatin1", type := .boolean, accessFlags := 0, slot := 2, constantValue := 0 }, { name := "count", type := .int, accessFlags := 0, slot := 3, constantValue := 0 }, { name := "EMPTYVALUE", type := (.array .byte), accessFlags := 26, slot := 0, constantValue := 0 }]
  methods := #[k26m0, k26m1, k26m2, k26m3, k26m4, k26m5, k26m6, k26m7, k26m8]
  instanceTypes := #[(.array .byte), .byte, .boolean, .int]
  staticTypes := #[(.array .byte)]
  resolved := Array.replicate 609 none
  statics := none }

def pool27 : Array CpInfo := pool [(1, .methodref 2 3), (0, .class_ 4), (0, .nameAndType 5 6), (0, u "java/lang/AbstractStringBuilder"), (0, u "<init>"), (0, u "(I)V"), (11, .class_ 20), (1, u "java/lang/String"), (3, .class_ 26), (1, u "java/lang/StringBuilder"), (0, u "append"), (0, u "(Ljava/lang/String;)Ljava/lang/StringBuilder;"), (0, .methodref 2 30), (0, .nameAndType 27 31), (0, u "(Ljava/lang/String;)Ljava/lang/AbstractStringBuilder;"), (105, .methodref 18 138), (0, .nameAndType 5 139), (0, u "(Ljava/lang/StringBuilder;)V"), (5, u "()V"), (10, u "()I"), (186, .methodref 2 344), (0, .nameAndType 345 156), (0, u "length"), (3, .class_ 350), (0, u "java/lang/Appendable"), (0, .class_ 352), (0, u "java/io/Serializable"), (0, .class_ 354), (0, u "java/lang/Comparable"), (0, .class_ 356), (0, u "java/lang/CharSequence"), (0, u "serialVersionUID"), (0, u "J"), (40, u "toString"), (0, u "()Ljava/lang/String;")] 21

def k27c0 : Code := { maxStack := 2, maxLocals := 1, code := jdk_67_method_1_code, exceptionTable := #[], attributes := #[] }
def k27m0 : Method := { name := "<init>", desc := "()V", sig := { parameters := [], returnType := none }, accessFlags := 1, code := some k27c0 }
def k27c1 : Code := { maxStack := 2, maxLocals := 2, code := jdk_67_method_7_code, exceptionTable := #[], attributes := #[] }
def k27m1 : Method := { name := "append", desc := "(Ljava/lang/String;)Ljava/lang/StringBuilder;", sig := { parameters := [(.object "java/lang/String")], returnType := some (.object "java/lang/StringBuilder") }, accessFlags := 1, code := some k27c1 }
def k27c2 : Code := { maxStack := 3, maxLocals := 1, code := jdk_67_method_42_code, exceptionTable := #[], attributes := #[] }
def k27m2 : Method := { name := "toString", desc := "()Ljava/lang/String;", sig := { parameters := [], returnType := some (.object "java/lang/String") }, accessFlags := 1, code := some k27c2 }
def k27c3 : Code := { maxStack := 1, maxLocals := 1, code := jdk_67_method_93_code, exceptionTable := #[], attributes := #[] }
def k27m3 : Method := { name := "length", desc := "()I", sig := { parameters := [], returnType := some .int }, accessFlags := 4161, code := some k27c3 }
/-- java/lang/StringBuilder -/
def k27 : Class := { plain "java/lang/StringBuilder" (some 26) with
  accessFlags := 49
  interfaces := #[25, 2, 3, 4]
  cf := some (fileOf pool27 24 #[] #[{ accessFlags := 1, nameIndex := 5, descriptorIndex := 145, attributes := #[] }, { accessFlags := 1, nameIndex := 27, descriptorIndex := 28, attributes := #[] }, { accessFlags := 1, nameIndex := 399, descriptorIndex := 400, attributes := #[] }, { accessFlags := 4161, nameIndex := 345, descriptorIndex := 156, attributes := #[] }] 49 2 #[349, 351, 353, 355] #[{ accessFlags := 24, nameIndex := 357, descriptorIndex := 358, attributes := #[] }])
  fields := #[{ name := "serialVersionUID", type := .long, accessFlags := 24, slot := 0, constantValue := 0 }]
  methods := #[k27m0, k27m1, k27m2, k27m3]
  instanceTypes := #[(.array .byte), .byte, .boolean, .int]
  staticTypes := #[.long]
  resolved := Array.replicate 422 none
  statics := none }

def pool28 : Array CpInfo := pool [(2, .class_ 4), (1, u "java/lang/Object"), (0, u "<init>"), (0, u "()V"), (1, .class_ 10), (1, u "java/lang/System"), (0, u "allowSecurityManager"), (0, u "I"), (16, u "cons"), (0, u "Ljava/io/Console;"), (77, .class_ 110), (1, u "java/lang/System$CallersHolder"), (43, u "initialErrStream"), (0, u "Ljava/io/PrintStream;"), (19, u "security"), (0, u "Ljava/lang/SecurityManager;"), (31, .class_ 209), (0, u "java/lang/System$1"), (7, u "props"), (0, u "Ljava/util/Properties;"), (2, u "lineSeparator"), (0, u "Ljava/lang/String;"), (96, .class_ 321), (1, u "java/lang/System$LoggerFinder"), (5, .class_ 328), (0, u "java/lang/System$Logger"), (67, u "err"), (2, u "out"), (91, u "notSupportedJnuEncoding"), (15, u "in"), (17, u "initialIn"), (0, u "Ljava/io/InputStream;"), (35, u "bootLayer"), (0, u "Ljava/lang/ModuleLayer;"), (99, .class_ 664), (0, u "java/lang/System$2"), (9, u "NEVER"), (2, u "MAYBE"), (49, u "arraycopy"), (0, u "(Ljava/lang/Object;ILjava/lang/Object;II)V"), (72, .class_ 802), (0, u "java/lang/System$Logger$Level")] 31

def k28m0 : Method := { name := "<init>", desc := "()V", sig := { parameters := [], returnType := none }, accessFlags := 2, code := none }
def k28m1 : Method := { name := "arraycopy", desc := "(Ljava/lang/Object;ILjava/lang/Object;II)V", sig := { parameters := [(.object "java/lang/Object"), .int, (.object "java/lang/Object"), .int, .int], returnType := none }, accessFlags := 265, code := none }
/-- java/lang/System -/
def k28 : Class := { plain "java/lang/System" (some 0) with
  accessFlags := 49
  interfaces := #[]
  cf := some (fileOf pool28 8 #[.nestMembers #[319, 327, 801, 108, 663, 208]] #[{ accessFlags := 2, nameIndex := 5, descriptorIndex := 6, attributes := #[] }, { accessFlags := 265, nameIndex := 727, descriptorIndex := 728, attributes := #[] }] 49 2 #[] #[{ accessFlags := 25, nameIndex := 507, descriptorIndex := 526, attributes := #[] }, { accessFlags := 25, nameIndex := 399, descriptorIndex := 155, attributes := #[] }, { accessFlags := 25, nameIndex := 396, descriptorIndex := 155, attributes := #[] }, { accessFlags := 10, nameIndex := 525, descriptorIndex := 526, attributes := #[] }, { accessFlags := 26, nameIndex := 674, descriptorIndex := 12, attributes := #[] }, { accessFlags := 26, nameIndex := 677, descriptorIndex := 12, attributes := #[] }, { accessFlags := 10, nameIndex := 11, descriptorIndex := 12, attributes := #[] }, { accessFlags := 74, nameIndex := 175, descriptorIndex := 176, attributes := #[] }, { accessFlags := 10, nameIndex := 491, descriptorIndex := 222, attributes := #[] }, { accessFlags := 74, nameIndex := 29, descriptorIndex := 30, attributes := #[] }, { accessFlags := 74, nameIndex := 154, descriptorIndex := 155, attributes := #[] }, { accessFlags := 10, nameIndex := 217, descriptorIndex := 218, attributes := #[] }, { accessFlags := 10, nameIndex := 221, descriptorIndex := 222, attributes := #[] }, { accessFlags := 8, nameIndex := 562, descriptorIndex := 563, attributes := #[] }])
  fields := #[{ name := "in", type := (.object "java/io/InputStream"), accessFlags := 25, slot := 0, constantValue := 0 }, { name := "out", type := (.object "java/io/PrintStream"), accessFlags := 25, slot := 1, constantValue := 0 }, { name := "err", type := (.object "java/io/PrintStream"), accessFlags := 25, slot := 2, constantValue := 0 }, { name := "initialIn", type := (.object "java/io/InputStream"), accessFlags := 10, slot := 3, constantValue := 0 }, { name := "NEVER", type := .int, accessFlags := 26, slot := 4, constantValue := 0 }, { name := "MAYBE", type := .int, accessFlags := 26, slot := 5, constantValue := 0 }, { name := "allowSecurityManager", type := .int, accessFlags := 10, slot := 6, constantValue := 0 }, { name := "security", type := (.object "java/lang/SecurityManager"), accessFlags := 74, slot := 7, constantValue := 0 }, { name := "notSupportedJnuEncoding", type := (.object "java/lang/String"), accessFlags := 10, slot := 8, constantValue := 0 }, { name := "cons", type := (.object "java/io/Console"), accessFlags := 74, slot := 9, constantValue := 0 }, { name := "initialErrStream", type := (.object "java/io/PrintStream"), accessFlags := 74, slot := 10, constantValue := 0 }, { name := "props", type := (.object "java/util/Properties"), accessFlags := 10, slot := 11, constantValue := 0 }, { name := "lineSeparator", type := (.object "java/lang/String"), accessFlags := 10, slot := 12, constantValue := 0 }, { name := "bootLayer", type := (.object "java/lang/ModuleLayer"), accessFlags := 8, slot := 13, constantValue := 0 }]
  methods := #[k28m0, k28m1]
  instanceTypes := #[]
  staticTypes := #[(.object "java/io/InputStream"), (.object "java/io/PrintStream"), (.object "java/io/PrintStream"), (.object "java/io/InputStream"), .int, .int, .int, (.object "java/lang/SecurityManager"), (.object "java/lang/String"), (.object "java/io/Console"), (.object "java/io/PrintStream"), (.object "java/util/Properties"), (.object "java/lang/String"), (.object "java/lang/ModuleLayer")]
  resolved := Array.replicate 834 none
  statics := none }

def pool29 : Array CpInfo := pool [(2, .class_ 4), (1, u "java/lang/Object"), (0, u "<init>"), (0, u "()V"), (7, .class_ 16), (1, u "java/util/Arrays"), (57, .class_ 76), (1, u "java/util/Arrays$NaturalOrder"), (9, .methodref 2 87), (0, .nameAndType 88 89), (0, u "getClass"), (0, u "()Ljava/lang/Class;"), (20, .class_ 111), (0, u "[Ljava/lang/Object;"), (1, .class_ 115), (1, u "java/util/Arrays$LegacyMergeSort"), (1, u "Z"), (21, u "copyOfRange"), (10, .methodref 151 152), (0, .class_ 153), (0, .nameAndType 154 155), (0, u "java/lang/System"), (0, u "arraycopy"), (0, u "(Ljava/lang/Object;ILjava/lang/Object;II)V"), (144, .methodref 14 301), (0, .nameAndType 302 303), (0, u "copyOf"), (0, u "([Ljava/lang/Object;ILjava/lang/Class;)[Ljava/lang/Object;"), (0, .methodref 305 306), (0, .class_ 307), (0, .nameAndType 308 309), (0, u "java/lang/Math"), (0, u "min"), (0, u "(II)I"), (29, .methodref 14 340), (0, .nameAndType 341 342), (0, u "copyOfRangeByte"), (0, u "([BII)[B"), (0, .methodref 14 344), (0, .nameAndType 345 346), (0, u "checkLength"), (0, u "(II)V"), (28, .class_ 376), (0, u "java/util/Arrays$ArrayList"), (68, u "$assertionsDisabled"), (269, u "MIN_ARRAY_SORT_GRAN"), (0, u "I"), (2, u "INSERTIONSORT_THRESHOLD"), (140, u "([Ljava/lang/Object;I)[Ljava/lang/Object;"), (114, .class_ 976), (0, u "java/util/Arrays$ArrayItr")] 52

def k29m0 : Method := { name := "<init>", desc := "()V", sig := { parameters := [], returnType := none }, accessFlags := 2, code := none }
def k29c1 : Code := { maxStack := 3, maxLocals := 2, code := jdk_65_method_119_code, exceptionTable := #[], attributes := #[] }
def k29m1 : Method := { name := "copyOf", desc := "([Ljava/lang/Object;I)[Ljava/lang/Object;", sig := { parameters := [(.array (.object "java/lang/Object")), .int], returnType := some (.array (.object "java/lang/Object")) }, accessFlags := 9, code := some k29c1 }
def k29c2 : Code := { maxStack := 6, maxLocals := 4, code := jdk_65_method_120_code, exceptionTable := #[], attributes := #[] }
def k29m2 : Method := { name := "copyOf", desc := "([Ljava/lang/Object;ILjava/lang/Class;)[Ljava/lang/Object;", sig := { parameters := [(.array (.object "java/lang/Object")), .int, (.object "java/lang/Class")], returnType := some (.array (.object "java/lang/Object")) }, accessFlags := 9, code := some k29c2 }
def k29c3 : Code := { maxStack := 4, maxLocals := 2, code := jdk_65_method_131_code, exceptionTable := #[], attributes := #[] }
def k29m3 : Method := { name := "checkLength", desc := "(II)V", sig := { parameters := [.int, .int], returnType := none }, accessFlags := 10, code := some k29c3 }
def k29c4 : Code := { maxStack := 3, maxLocals := 3, code := jdk_65_method_132_code, exceptionTable := #[], attributes := #[] }
def k29m4 : Method := { name := "copyOfRange", desc := "([BII)[B", sig := { parameters := [(.array .byte), .int, .int], returnType := some (.array .byte) }, accessFlags := 9, code := some k29c4 }
def k29c5 : Code := { maxStack := 6, maxLocals := 5, code := jdk_65_method_133_code, exceptionTable := #[], attributes := #[] }
def k29m5 : Method := { name := "copyOfRangeByte", desc := "([BII)[B", sig := { parameters := [(.array .byte), .int, .int], returnType := some (.array .byte) }, accessFlags := 10, code := some k29c5 }
/-- java/util/Arrays -/
def k29 : Class := { plain "java/util/Arrays" (some 0) with
  accessFlags := 49
  interfaces := #[]
  cf := some (fileOf pool29 14 #[.nestMembers #[975, 375, 113, 74]] #[{ accessFlags := 2, nameIndex := 5, descriptorIndex := 6, attributes := #[] }, { accessFlags := 9, nameIndex := 302, descriptorIndex := 860, attributes := #[] }, { accessFlags := 9, nameIndex := 302, descriptorIndex := 303, attributes := #[] }, { accessFlags := 10, nameIndex := 345, descriptorIndex := 346, attributes := #[] }, { accessFlags := 9, nameIndex := 139, descriptorIndex := 342, attributes := #[] }, { accessFlags := 10, nameIndex := 341, descriptorIndex := 342, attributes := #[] }] 49 2 #[] #[{ accessFlags := 26, nameIndex := 715, descriptorIndex := 716, attributes := #[] }, { accessFlags := 26, nameIndex := 719, descriptorIndex := 716, attributes := #[] }, { accessFlags := 4120, nameIndex := 445, descriptorIndex := 117, attributes := #[] }])
  fields := #[{ name := "MIN_ARRAY_SORT_GRAN", type := .int, accessFlags := 26, slot := 0, constantValue := 0 }, { name := "INSERTIONSORT_THRESHOLD", type := .int, accessFlags := 26, slot := 1, constantValue := 0 }, { name := "$assertionsDisabled", type := .boolean, accessFlags := 4120, slot := 2, constantValue := 0 }]
  methods := #[k29m0, k29m1, k29m2, k29m3, k29m4, k29m5]
  instanceTypes := #[]
  staticTypes := #[.int, .int, .boolean]
  resolved := Array.replicate 1029 none
  statics := none }

def pool30 : Array CpInfo := pool [(1, .class_ 2), (0, u "java/lang/Math"), (1, .class_ 6), (1, u "java/lang/Object"), (0, u "<init>"), (0, u "()V"), (89, .class_ 100), (1, u "java/lang/Math$RandomNumberGeneratorHolder"), (71, u "negativeZeroFloatBits"), (0, u "J"), (2, u "negativeZeroDoubleBits"), (21, u "max"), (2, u "min"), (43, u "$assertionsDisabled"), (0, u "Z"), (88, u "(II)I"), (2, u "twoToTheDoubleScaleDown"), (0, u "D"), (4, u "twoToTheDoubleScaleUp"), (9, u "E"), (3, u "PI"), (2, u "TAU"), (2, u "DEGREES_TO_RADIANS"), (0, u "RADIANS_TO_DEGREES")] 94

def k30m0 : Method := { name := "<init>", desc := "()V", sig := { parameters := [], returnType := none }, accessFlags := 2, code := none }
def k30c1 : Code := { maxStack := 2, maxLocals := 2, code := jdk_29_method_65_code, exceptionTable := #[], attributes := #[] }
def k30m1 : Method := { name := "max", desc := "(II)I", sig := { parameters := [.int, .int], returnType := some .int }, accessFlags := 9, code := some k30c1 }
def k30c2 : Code := { maxStack := 2, maxLocals := 2, code := jdk_29_method_69_code, exceptionTable := #[], attributes := #[] }
def k30m2 : Method := { name := "min", desc := "(II)I", sig := { parameters := [.int, .int], returnType := some .int }, accessFlags := 9, code := some k30c2 }
/-- java/lang/Math -/
def k30 : Class := { plain "java/lang/Math" (some 0) with
  accessFlags := 49
  interfaces := #[]
  cf := some (fileOf pool30 1 #[.nestMembers #[98]] #[{ accessFlags := 2, nameIndex := 7, descriptorIndex := 8, attributes := #[] }, { accessFlags := 9, nameIndex := 198, descriptorIndex := 335, attributes := #[] }, { accessFlags := 9, nameIndex := 201, descriptorIndex := 335, attributes := #[] }] 49 4 #[] #[{ accessFlags := 25, nameIndex := 354, descriptorIndex := 339, attributes := #[] }, { accessFlags := 25, nameIndex := 358, descriptorIndex := 339, attributes := #[] }, { accessFlags := 25, nameIndex := 361, descriptorIndex := 339, attributes := #[] }, { accessFlags := 26, nameIndex := 364, descriptorIndex := 339, attributes := #[] }, { accessFlags := 26, nameIndex := 365, descriptorIndex := 339, attributes := #[] }, { accessFlags := 26, nameIndex := 172, descriptorIndex := 173, attributes := #[] }, { accessFlags := 26, nameIndex := 176, descriptorIndex := 173, attributes := #[] }, { accessFlags := 8, nameIndex := 344, descriptorIndex := 339, attributes := #[] }, { accessFlags := 8, nameIndex := 338, descriptorIndex := 339, attributes := #[] }, { accessFlags := 4120, nameIndex := 245, descriptorIndex := 246, attributes := #[] }])
  fields := #[{ name := "E", type := .double, accessFlags := 25, slot := 0, constantValue := 0 }, { name := "PI", type := .double, accessFlags := 25, slot := 1, constantValue := 0 }, { name := "TAU", type := .double, accessFlags := 25, slot := 2, constantValue := 0 }, { name := "DEGREES_TO_RADIANS", type := .double, accessFlags := 26, slot := 3, constantValue := 0 }, { name := "RADIANS_TO_DEGREES", type := .double, accessFlags := 26, slot := 4, constantValue := 0 }, { name := "negativeZeroFloatBits", type := .long, accessFlags := 26, slot := 5, constantValue := 0 }, { name := "negativeZeroDoubleBits", type := .long, accessFlags := 26, slot := 6, constantValue := 0 }, { name := "twoToTheDoubleScaleUp", type := .double, accessFlags := 8, slot := 7, constantValue := 0 }, { name := "twoToTheDoubleScaleDown", type := .double, accessFlags := 8, slot := 8, constantValue := 0 }, { name := "$assertionsDisabled", type := .boolean, accessFlags := 4120, slot := 9, constantValue := 0 }]
  methods := #[k30m0, k30m1, k30m2]
  instanceTypes := #[]
  staticTypes := #[.double, .double, .double, .double, .double, .long, .long, .double, .double, .boolean]
  resolved := Array.replicate 460 none
  statics := none }

def pool31 : Array CpInfo := pool [(2, .class_ 4), (1, u "java/lang/Object"), (0, u "<init>"), (0, u "()V"), (35, .class_ 44), (1, u "java/util/Objects"), (0, u "requireNonNull"), (0, u "(Ljava/lang/Object;)Ljava/lang/Object;")] 137

def k31m0 : Method := { name := "<init>", desc := "()V", sig := { parameters := [], returnType := none }, accessFlags := 2, code := none }
def k31c1 : Code := { maxStack := 2, maxLocals := 1, code := jdk_31_method_10_code, exceptionTable := #[], attributes := #[] }
def k31m1 : Method := { name := "requireNonNull", desc := "(Ljava/lang/Object;)Ljava/lang/Object;", sig := { parameters := [(.object "java/lang/Object")], returnType := some (.object "java/lang/Object") }, accessFlags := 9, code := some k31c1 }
/-- java/util/Objects -/
def k31 : Class := { plain "java/util/Objects" (some 0) with
  accessFlags := 49
  interfaces := #[]
  cf := some (fileOf pool31 42 #[] #[{ accessFlags := 2, nameIndex := 5, descriptorIndex := 6, attributes := #[] }, { accessFlags := 9, nameIndex := 45, descriptorIndex := 46, attributes := #[] }] 49 2 #[] #[])
  fields := #[]
  methods := #[k31m0, k31m1]
  instanceTypes := #[]
  staticTypes := #[]
  resolved := Array.replicate 184 none
  statics := none }

def pool32 : Array CpInfo := pool [(2, .class_ 4), (1, u "java/lang/Object"), (0, u "<init>"), (0, u "()V"), (17, .class_ 26), (1, u "jdk/internal/util/Preconditions"), (28, .class_ 56), (0, u "jdk/internal/util/Preconditions$4"), (57, .class_ 115), (0, u "jdk/internal/util/Preconditions$1"), (7, u "SIOOBE_FORMATTER"), (0, u "Ljava/util/function/BiFunction;"), (0, .class_ 126), (0, u "jdk/internal/util/Preconditions$2"), (3, u "AIOOBE_FORMATTER"), (0, .class_ 132), (0, u "jdk/internal/util/Preconditions$3"), (3, u "IOOBE_FORMATTER")] 57

def k32m0 : Method := { name := "<init>", desc := "()V", sig := { parameters := [], returnType := none }, accessFlags := 1, code := none }
/-- jdk/internal/util/Preconditions -/
def k32 : Class := { plain "jdk/internal/util/Preconditions" (some 0) with
  accessFlags := 33
  interfaces := #[]
  cf := some (fileOf pool32 24 #[.nestMembers #[55, 131, 125, 114]] #[{ accessFlags := 1, nameIndex := 5, descriptorIndex := 6, attributes := #[] }] 33 2 #[] #[{ accessFlags := 25, nameIndex := 123, descriptorIndex := 124, attributes := #[] }, { accessFlags := 25, nameIndex := 130, descriptorIndex := 124, attributes := #[] }, { accessFlags := 25, nameIndex := 136, descriptorIndex := 124, attributes := #[] }])
  fields := #[{ name := "SIOOBE_FORMATTER", type := (.object "java/util/function/BiFunction"), accessFlags := 25, slot := 0, constantValue := 0 }, { name := "AIOOBE_FORMATTER", type := (.object "java/util/function/BiFunction"), accessFlags := 25, slot := 1, constantValue := 0 }, { name := "IOOBE_FORMATTER", type := (.object "java/util/function/BiFunction"), accessFlags := 25, slot := 2, constantValue := 0 }]
  methods := #[k32m0]
  instanceTypes := #[]
  staticTypes := #[(.object "java/util/function/BiFunction"), (.object "java/util/function/BiFunction"), (.object "java/util/function/BiFunction")]
  resolved := Array.replicate 194 none
  statics := some 3 }

def pool33 : Array CpInfo := pool [(9, u "<init>"), (6, .class_ 18), (1, u "java/lang/Object"), (0, u "()V"), (1, .class_ 23), (1, u "jdk/internal/util/ArraysSupport"), (0, u "LOG2_ARRAY_LONG_INDEX_SCALE"), (0, u "I"), (2, u "U"), (0, u "Ljdk/internal/misc/Unsafe;"), (8, u "BIG_ENDIAN"), (0, u "Z"), (8, u "LOG2_BYTE_BIT_SIZE"), (4, u "LOG2_ARRAY_INT_INDEX_SCALE"), (54, u "JLA"), (0, u "Ljdk/internal/access/JavaLangAccess;"), (11, u "LOG2_ARRAY_BOOLEAN_INDEX_SCALE"), (9, u "LOG2_ARRAY_BYTE_INDEX_SCALE"), (5, u "LOG2_ARRAY_CHAR_INDEX_SCALE"), (5, u "LOG2_ARRAY_SHORT_INDEX_SCALE"), (18, u "LOG2_ARRAY_FLOAT_INDEX_SCALE"), (24, u "LOG2_ARRAY_DOUBLE_INDEX_SCALE"), (89, u "T_BOOLEAN"), (2, u "T_CHAR"), (1, u "T_FLOAT"), (1, u "T_DOUBLE"), (1, u "T_BYTE"), (1, u "T_SHORT"), (1, u "T_INT"), (1, u "T_LONG"), (1, u "SOFT_MAX_ARRAY_LENGTH")] 83

def k33m0 : Method := { name := "<init>", desc := "()V", sig := { parameters := [], returnType := none }, accessFlags := 2, code := none }
/-- jdk/internal/util/ArraysSupport -/
def k33 : Class := { plain "jdk/internal/util/ArraysSupport" (some 0) with
  accessFlags := 33
  interfaces := #[]
  cf := some (fileOf pool33 21 #[] #[{ accessFlags := 2, nameIndex := 9, descriptorIndex := 19, attributes := #[] }] 33 16 #[] #[{ accessFlags := 24, nameIndex := 28, descriptorIndex := 29, attributes := #[] }, { accessFlags := 26, nameIndex := 38, descriptorIndex := 39, attributes := #[] }, { accessFlags := 25, nameIndex := 121, descriptorIndex := 25, attributes := #[] }, { accessFlags := 25, nameIndex := 131, descriptorIndex := 25, attributes := #[] }, { accessFlags := 25, nameIndex := 137, descriptorIndex := 25, attributes := #[] }, { accessFlags := 25, nameIndex := 143, descriptorIndex := 25, attributes := #[] }, { accessFlags := 25, nameIndex := 53, descriptorIndex := 25, attributes := #[] }, { accessFlags := 25, nameIndex := 24, descriptorIndex := 25, attributes := #[] }, { accessFlags := 25, nameIndex := 162, descriptorIndex := 25, attributes := #[] }, { accessFlags := 25, nameIndex := 187, descriptorIndex := 25, attributes := #[] }, { accessFlags := 26, nameIndex := 48, descriptorIndex := 25, attributes := #[] }, { accessFlags := 25, nameIndex := 277, descriptorIndex := 25, attributes := #[] }, { accessFlags := 25, nameIndex := 280, descriptorIndex := 25, attributes := #[] }, { accessFlags := 25, nameIndex := 282, descriptorIndex := 25, attributes := #[] }, { accessFlags := 25, nameIndex := 284, descriptorIndex := 25, attributes := #[] }, { accessFlags := 25, nameIndex := 286, descriptorIndex := 25, attributes := #[] }, { accessFlags := 25, nameIndex := 288, descriptorIndex := 25, attributes := #[] }, { accessFlags := 25, nameIndex := 290, descriptorIndex := 25, attributes := #[] }, { accessFlags := 25, nameIndex := 292, descriptorIndex := 25, attributes := #[] }, { accessFlags := 26, nameIndex := 108, descriptorIndex := 109, attributes := #[] }, { accessFlags := 25, nameIndex := 294, descriptorIndex := 25, attributes := #[] }])
  fields := #[{ name := "U", type := (.object "jdk/internal/misc/Unsafe"), accessFlags := 24, slot := 0, constantValue := 0 }, { name := "BIG_ENDIAN", type := .boolean, accessFlags := 26, slot := 1, constantValue := 0 }, { name := "LOG2_ARRAY_BOOLEAN_INDEX_SCALE", type := .int, accessFlags := 25, slot := 2, constantValue := 0 }, { name := "LOG2_ARRAY_BYTE_INDEX_SCALE", type := .int, accessFlags := 25, slot := 3, constantValue := 0 }, { name := "LOG2_ARRAY_CHAR_INDEX_SCALE", type := .int, accessFlags := 25, slot := 4, constantValue := 0 }, { name := "LOG2_ARRAY_SHORT_INDEX_SCALE", type := .int, accessFlags := 25, slot := 5, constantValue := 0 }, { name := "LOG2_ARRAY_INT_INDEX_SCALE", type := .int, accessFlags := 25, slot := 6, constantValue := 0 }, { name := "LOG2_ARRAY_LONG_INDEX_SCALE", type := .int, accessFlags := 25, slot := 7, constantValue := 0 }, { name := "LOG2_ARRAY_FLOAT_INDEX_SCALE", type := .int, accessFlags := 25, slot := 8, constantValue := 0 }, { name := "LOG2_ARRAY_DOUBLE_INDEX_SCALE", type := .int, accessFlags := 25, slot := 9, constantValue := 0 }, { name := "LOG2_BYTE_BIT_SIZE", type := .int, accessFlags := 26, slot := 10, constantValue := 0 }, { name := "T_BOOLEAN", type := .int, accessFlags := 25, slot := 11, constantValue := 0 }, { name := "T_CHAR", type := .int, accessFlags := 25, slot := 12, constantValue := 0 }, { name := "T_FLOAT", type := .int, accessFlags := 25, slot := 13, constantValue := 0 }, { name := "T_DOUBLE", type := .int, accessFlags := 25, slot := 14, constantValue := 0 }, { name := "T_BYTE", type := .int, accessFlags := 25, slot := 15, constantValue := 0 }, { name := "T_SHORT", type := .int, accessFlags := 25, slot := 16, constantValue := 0 }, { name := "T_INT", type := .int, accessFlags := 25, slot := 17, constantValue := 0 }, { name := "T_LONG", type := .int, accessFlags := 25, slot := 18, constantValue := 0 }, { name := "JLA", type := (.object "jdk/internal/access/JavaLangAccess"), accessFlags := 26, slot := 19, constantValue := 0 }, { name := "SOFT_MAX_ARRAY_LENGTH", type := .int, accessFlags := 25, slot := 20, constantValue := 0 }]
  methods := #[k33m0]
  instanceTypes := #[]
  staticTypes := #[(.object "jdk/internal/misc/Unsafe"), .boolean, .int, .int, .int, .int, .int, .int, .int, .int, .int, .int, .int, .int, .int, .int, .int, .int, .int, (.object "jdk/internal/access/JavaLangAccess"), .int]
  resolved := Array.replicate 378 none
  statics := none }

def pool34 : Array CpInfo := pool [(1, u "java/lang/Class"), (0, .class_ 1), (0, u "java/lang/Object"), (0, .class_ 3)] 0

/-- java/lang/Class -/
def k34 : Class := { plain "java/lang/Class" (some 0) with
  accessFlags := 49
  interfaces := #[]
  cf := some (fileOf pool34 2 #[] #[] 49 4 #[] #[])
  fields := #[]
  methods := #[]
  instanceTypes := #[]
  staticTypes := #[]
  resolved := Array.replicate 5 none
  statics := none }

/-- the primitive byte -/
def k35 : Class := { plain "byte" none with kind := .primitive 'B', accessFlags := 0x411 }
/-- [B -/
def k36 : Class := { plain "[B" (some 0) with kind := .array 35 .byte, interfaces := #[18, 2], accessFlags := 1041 }

/-- the primitive char -/
def k37 : Class := { plain "char" none with kind := .primitive 'C', accessFlags := 0x411 }
/-- [C -/
def k38 : Class := { plain "[C" (some 0) with kind := .array 37 .char, interfaces := #[18, 2], accessFlags := 1041 }

/-- the primitive int -/
def k39 : Class := { plain "int" none with kind := .primitive 'I', accessFlags := 0x411 }
/-- [I -/
def k40 : Class := { plain "[I" (some 0) with kind := .array 39 .int, interfaces := #[18, 2], accessFlags := 1041 }

/-- [Ljava/lang/Object; -/
def k41 : Class := { plain "[Ljava/lang/Object;" (some 0) with kind := .array 0 (.object "java/lang/Object"), interfaces := #[18, 2], accessFlags := 1041, mirror := some 4 }

def heap : Heap := #[{ cls := 7, slots := #[.long 0, .int 1, .null, .int 0, .null, .int 0, .int 0], vm := .statics 7 },
  { cls := 19, slots := #[.long 0, .int 0, .ref 7, .ref 8], vm := .statics 19 },
  { cls := 20, slots := #[.long 0, .int 0, .null, .ref 9, .ref 6, .null, .null, .null, .int 0, .int 1], vm := .statics 20 },
  { cls := 32, slots := #[.null, .null, .null], vm := .statics 32 },
  { cls := 34, slots := #[], vm := .mirror 41 },
  { cls := 41, slots := #[], vm := .none },
  { cls := 24, slots := #[.ref 5, .int 0], vm := .none },
  { cls := 41, slots := #[], vm := .none },
  { cls := 41, slots := #[], vm := .none },
  { cls := 0, slots := #[], vm := .none }]
def classes : Array Class := #[k0, k1, k2, k3, k4, k5, k6, k7, k8, k9, k10, k11, k12, k13, k14, k15, k16, k17, k18, k19, k20, k21, k22, k23, k24, k25, k26, k27, k28, k29, k30, k31, k32, k33, k34, k35, k36, k37, k38, k39, k40, k41]
def interned : List (Array UInt16 × Addr) := []
def slotsUsed : Nat := 26
def theMethod : MethodId := ⟨1, 1⟩
def args0 : Array Value := #[.int 25185, .int 25699, .int 65, .int 66, .int 1]
def aboutOver (below : List Frame) : State where
  vm := { classes := classes, interned := interned.toArray }
  heap := heap
  slotsUsed := slotsUsed
  threads := #[{ frames := .invoking theMethod args0 :: below }]
def below0 : List Frame := [.native { method := ⟨0, 0⟩, args := #[] }]
def about1 : State := aboutOver below0
def p0 : Program := .bare "" "" ""
def e0 : Env := launch0.env 0 0 0
theorem w_frames : about1.frames = Frame.invoking theMethod args0 :: below0 := rfl
set_option maxRecDepth 65536 in
theorem w_args : argsFit about1.vm theMethod args0 = true := by decide +kernel
set_option maxRecDepth 65536 in
theorem w_heap : heapFits about1 = true := by decide +kernel
set_option maxRecDepth 65536 in
theorem w_runnable : about1.curStatus? = some .runnable := by decide +kernel
set_option maxRecDepth 65536 in
theorem w_alone : about1.alone = true := by decide +kernel
set_option maxRecDepth 65536 in
theorem w_named : about1.methodNamed? x = some theMethod := by decide +kernel
set_option maxRecDepth 65536 in
theorem w_hears : about1.hears theMethod below0 = true := by decide +kernel
set_option maxRecDepth 65536 in
theorem w_ripe : about1.ripe theMethod args0 below0 = true := by decide +kernel
theorem w_running : about1.status = .running := rfl
set_option maxRecDepth 65536 in
theorem w_room : about1.hasRoom e0.platform room_1 = true :=
  launch0.hasRoom_least _ room_1 (by decide +kernel) (by decide +kernel) (by decide +kernel) (by decide +kernel) (by decide +kernel) (by decide +kernel)
theorem allAtoms_all (ts : List Jvm.Cond) (a : Array Jvm.Value) (st : Jvm.State) : (allAtoms ts).before a st = ts.all (fun c => c.before a st) := by
  induction ts with
  | nil => rfl
  | cons c t ih =>
    show (Jvm.Cond.and c (allAtoms t)).before a st = _
    rw [Jvm.Cond.before_and, ih, List.all_cons]
def words1 : List Jvm.Cond := Jvm.Cond.code x code maxLocals ret :: tables_1
/-- a 'code' word, met by the world's own term for the bytes: nothing is compared byte by byte -/
theorem code_word {y : MethodName} {bytes : ByteArray} {mx : Nat} {rt : Option FieldType} {a : Array Value} {s : State} {m : MethodId} {meth : Method} {c : Code} (h1 : s.methodNamed? y = some m) (h2 : s.vm.method? m = some meth) (h3 : meth.code = some c) (h4 : c.code = bytes)
    (h5 : (c.maxLocals == mx && c.exceptionTable.isEmpty && decide (c.maxStack ≤ mostOperands) && decide (meth.sig.returnType = rt) && !meth.locks && decide (parseMethodDescriptor y.desc = some meth.sig)) = true) : (Jvm.Cond.code y bytes mx rt).before a s = true := by
  simp only [Bool.and_eq_true, beq_iff_eq, Bool.not_eq_true', decide_eq_true_eq] at h5
  obtain ⟨⟨⟨⟨⟨g1, g2⟩, g3⟩, g4⟩, g5⟩, g6⟩ := h5
  simp [Cond.before, Cond.holds, Cond.value, h1, h2, h3, h4, g1, g2, g3, g4, g5, g6]
def isCode : Jvm.Cond → Bool
  | .code _ _ _ _ => true
  | _ => false
theorem all_split {L : List Jvm.Cond} {P : Jvm.Cond → Bool} (h1 : L.all (fun c => isCode c || P c) = true) (h2 : ∀ c ∈ L.filter isCode, P c = true) : L.all P = true := by
  refine List.all_eq_true.mpr fun c hc => ?_
  have h := List.all_eq_true.mp h1 c hc
  rcases Bool.eq_false_or_eq_true (isCode c) with hi | hi
  · exact h2 c (List.mem_filter.mpr ⟨hc, hi⟩)
  · simpa [hi] using h
set_option maxRecDepth 65536 in
theorem w_c0 : (Jvm.Cond.code x code maxLocals ret).before args0 about1 = true := code_word (m := ⟨1, 1⟩) (meth := k1m1) (c := k1c1) (by decide +kernel) rfl rfl rfl (by decide +kernel)
set_option maxRecDepth 65536 in
theorem w_c1 : (Jvm.Cond.code ({ cls := "java/lang/String", name := "<init>", desc := "([C)V" } : Jvm.MethodName) jdk_42_method_3_code (2 : Nat) (Option.none : Option Jvm.ClassFile.FieldType)).before args0 about1 = true := code_word (m := ⟨7, 1⟩) (meth := k7m1) (c := k7c1) (by decide +kernel) rfl rfl rfl (by decide +kernel)
set_option maxRecDepth 65536 in
theorem w_c2 : (Jvm.Cond.code ({ cls := "java/lang/String", name := "<init>", desc := "([CIILjava/lang/Void;)V" } : Jvm.MethodName) jdk_42_method_149_code (6 : Nat) (Option.none : Option Jvm.ClassFile.FieldType)).before args0 about1 = true := code_word (m := ⟨7, 7⟩) (meth := k7m7) (c := k7c7) (by decide +kernel) rfl rfl rfl (by decide +kernel)
set_option maxRecDepth 65536 in
theorem w_c3 : (Jvm.Cond.code ({ cls := "java/lang/Object", name := "<init>", desc := "()V" } : Jvm.MethodName) object_method_1_code (1 : Nat) (Option.none : Option Jvm.ClassFile.FieldType)).before args0 about1 = true := code_word (m := ⟨0, 0⟩) (meth := k0m0) (c := k0c0) (by decide +kernel) rfl rfl rfl (by decide +kernel)
set_option maxRecDepth 65536 in
theorem w_c4 : (Jvm.Cond.code ({ cls := "java/lang/StringUTF16", name := "compress", desc := "([CII)[B" } : Jvm.MethodName) jdk_52_method_16_code (6 : Nat) (Option.some (Jvm.ClassFile.FieldType.array Jvm.ClassFile.FieldType.byte))).before args0 about1 = true := code_word (m := ⟨8, 2⟩) (meth := k8m2) (c := k8c2) (by decide +kernel) rfl rfl rfl (by decide +kernel)
set_option maxRecDepth 65536 in
theorem w_c5 : (Jvm.Cond.code ({ cls := "java/lang/StringUTF16", name := "compress", desc := "([CI[BII)I" } : Jvm.MethodName) jdk_52_method_21_code (7 : Nat) (Option.some Jvm.ClassFile.FieldType.int)).before args0 about1 = true := code_word (m := ⟨8, 3⟩) (meth := k8m3) (c := k8c3) (by decide +kernel) rfl rfl rfl (by decide +kernel)
set_option maxRecDepth 65536 in
theorem w_c6 : (Jvm.Cond.code ({ cls := "java/lang/StringUTF16", name := "coderFromArrayLen", desc := "([BI)B" } : Jvm.MethodName) jdk_52_method_15_code (2 : Nat) (Option.some Jvm.ClassFile.FieldType.byte)).before args0 about1 = true := code_word (m := ⟨8, 1⟩) (meth := k8m1) (c := k8c1) (by decide +kernel) rfl rfl rfl (by decide +kernel)
set_option maxRecDepth 65536 in
theorem w_c7 : (Jvm.Cond.code ({ cls := "java/lang/String", name := "valueOf", desc := "(C)Ljava/lang/String;" } : Jvm.MethodName) jdk_42_method_139_code (1 : Nat) (Option.some (Jvm.ClassFile.FieldType.object "java/lang/String"))).before args0 about1 = true := code_word (m := ⟨7, 5⟩) (meth := k7m5) (c := k7c5) (by decide +kernel) rfl rfl rfl (by decide +kernel)
set_option maxRecDepth 65536 in
theorem w_c8 : (Jvm.Cond.code ({ cls := "java/lang/StringLatin1", name := "canEncode", desc := "(C)Z" } : Jvm.MethodName) jdk_43_method_3_code (1 : Nat) (Option.some Jvm.ClassFile.FieldType.boolean)).before args0 about1 = true := code_word (m := ⟨9, 1⟩) (meth := k9m1) (c := k9c1) (by decide +kernel) rfl rfl rfl (by decide +kernel)
set_option maxRecDepth 65536 in
theorem w_c9 : (Jvm.Cond.code ({ cls := "java/lang/StringLatin1", name := "toBytes", desc := "(C)[B" } : Jvm.MethodName) jdk_43_method_46_code (1 : Nat) (Option.some (Jvm.ClassFile.FieldType.array Jvm.ClassFile.FieldType.byte))).before args0 about1 = true := code_word (m := ⟨9, 3⟩) (meth := k9m3) (c := k9c3) (by decide +kernel) rfl rfl rfl (by decide +kernel)
set_option maxRecDepth 65536 in
theorem w_c10 : (Jvm.Cond.code ({ cls := "java/lang/String", name := "<init>", desc := "([BB)V" } : Jvm.MethodName) jdk_42_method_151_code (3 : Nat) (Option.none : Option Jvm.ClassFile.FieldType)).before args0 about1 = true := code_word (m := ⟨7, 9⟩) (meth := k7m9) (c := k7c9) (by decide +kernel) rfl rfl rfl (by decide +kernel)
set_option maxRecDepth 65536 in
theorem w_c11 : (Jvm.Cond.code ({ cls := "com/example/nroute/nroute/route/Mistakes", name := "<init>", desc := "()V" } : Jvm.MethodName) prog_26_method_1_code (1 : Nat) (Option.none : Option Jvm.ClassFile.FieldType)).before args0 about1 = true := code_word (m := ⟨10, 0⟩) (meth := k10m0) (c := k10c0) (by decide +kernel) rfl rfl rfl (by decide +kernel)
set_option maxRecDepth 65536 in
theorem w_c12 : (Jvm.Cond.code ({ cls := "java/util/ArrayList", name := "<init>", desc := "()V" } : Jvm.MethodName) jdk_38_method_2_code (1 : Nat) (Option.none : Option Jvm.ClassFile.FieldType)).before args0 about1 = true := code_word (m := ⟨19, 0⟩) (meth := k19m0) (c := k19c0) (by decide +kernel) rfl rfl rfl (by decide +kernel)
set_option maxRecDepth 65536 in
theorem w_c13 : (Jvm.Cond.code ({ cls := "java/util/AbstractList", name := "<init>", desc := "()V" } : Jvm.MethodName) jdk_39_method_1_code (1 : Nat) (Option.none : Option Jvm.ClassFile.FieldType)).before args0 about1 = true := code_word (m := ⟨16, 0⟩) (meth := k16m0) (c := k16c0) (by decide +kernel) rfl rfl rfl (by decide +kernel)
set_option maxRecDepth 65536 in
theorem w_c14 : (Jvm.Cond.code ({ cls := "java/util/AbstractCollection", name := "<init>", desc := "()V" } : Jvm.MethodName) jdk_22_method_1_code (1 : Nat) (Option.none : Option Jvm.ClassFile.FieldType)).before args0 about1 = true := code_word (m := ⟨13, 0⟩) (meth := k13m0) (c := k13c0) (by decide +kernel) rfl rfl rfl (by decide +kernel)
set_option maxRecDepth 65536 in
theorem w_c15 : (Jvm.Cond.code ({ cls := "com/example/nroute/nroute/route/Mistakes", name := "isEmpty", desc := "()Z" } : Jvm.MethodName) prog_26_method_3_code (1 : Nat) (Option.some Jvm.ClassFile.FieldType.boolean)).before args0 about1 = true := code_word (m := ⟨10, 2⟩) (meth := k10m2) (c := k10c2) (by decide +kernel) rfl rfl rfl (by decide +kernel)
set_option maxRecDepth 65536 in
theorem w_c16 : (Jvm.Cond.code ({ cls := "java/util/ArrayList", name := "isEmpty", desc := "()Z" } : Jvm.MethodName) jdk_38_method_9_code (1 : Nat) (Option.some Jvm.ClassFile.FieldType.boolean)).before args0 about1 = true := code_word (m := ⟨19, 3⟩) (meth := k19m3) (c := k19c3) (by decide +kernel) rfl rfl rfl (by decide +kernel)
set_option maxRecDepth 65536 in
theorem w_c17 : (Jvm.Cond.code ({ cls := "com/example/nroute/nroute/route/Mistakes", name := "lines", desc := "()Ljava/util/List;" } : Jvm.MethodName) prog_26_method_4_code (1 : Nat) (Option.some (Jvm.ClassFile.FieldType.object "java/util/List"))).before args0 about1 = true := code_word (m := ⟨10, 3⟩) (meth := k10m3) (c := k10c3) (by decide +kernel) rfl rfl rfl (by decide +kernel)
set_option maxRecDepth 65536 in
theorem w_c18 : (Jvm.Cond.code ({ cls := "java/util/List", name := "copyOf", desc := "(Ljava/util/Collection;)Ljava/util/List;" } : Jvm.MethodName) jdk_40_method_48_code (1 : Nat) (Option.some (Jvm.ClassFile.FieldType.object "java/util/List"))).before args0 about1 = true := code_word (m := ⟨15, 6⟩) (meth := k15m6) (c := k15c6) (by decide +kernel) rfl rfl rfl (by decide +kernel)
set_option maxRecDepth 65536 in
theorem w_c19 : (Jvm.Cond.code ({ cls := "java/util/ImmutableCollections", name := "listCopy", desc := "(Ljava/util/Collection;)Ljava/util/List;" } : Jvm.MethodName) jdk_56_method_3_code (2 : Nat) (Option.some (Jvm.ClassFile.FieldType.object "java/util/List"))).before args0 about1 = true := code_word (m := ⟨20, 1⟩) (meth := k20m1) (c := k20c1) (by decide +kernel) rfl rfl rfl (by decide +kernel)
set_option maxRecDepth 65536 in
theorem w_c20 : (Jvm.Cond.code ({ cls := "java/util/List", name := "of", desc := "()Ljava/util/List;" } : Jvm.MethodName) jdk_40_method_36_code (0 : Nat) (Option.some (Jvm.ClassFile.FieldType.object "java/util/List"))).before args0 about1 = true := code_word (m := ⟨15, 4⟩) (meth := k15m4) (c := k15c4) (by decide +kernel) rfl rfl rfl (by decide +kernel)
set_option maxRecDepth 65536 in
theorem w_c21 : (Jvm.Cond.code ({ cls := "java/util/ImmutableCollections$ListN", name := "size", desc := "()I" } : Jvm.MethodName) jdk_45_method_3_code (1 : Nat) (Option.some Jvm.ClassFile.FieldType.int)).before args0 about1 = true := code_word (m := ⟨24, 0⟩) (meth := k24m0) (c := k24c0) (by decide +kernel) rfl rfl rfl (by decide +kernel)
set_option maxRecDepth 65536 in
theorem w_c22 : (Jvm.Cond.code ({ cls := "com/example/nroute/nroute/route/Mistakes", name := "add", desc := "(Ljava/lang/String;Ljava/lang/String;)V" } : Jvm.MethodName) prog_26_method_2_code (3 : Nat) (Option.none : Option Jvm.ClassFile.FieldType)).before args0 about1 = true := code_word (m := ⟨10, 1⟩) (meth := k10m1) (c := k10c1) (by decide +kernel) rfl rfl rfl (by decide +kernel)
set_option maxRecDepth 65536 in
theorem w_c23 : (Jvm.Cond.code ({ cls := "java/lang/StringBuilder", name := "<init>", desc := "()V" } : Jvm.MethodName) jdk_67_method_1_code (1 : Nat) (Option.none : Option Jvm.ClassFile.FieldType)).before args0 about1 = true := code_word (m := ⟨27, 0⟩) (meth := k27m0) (c := k27c0) (by decide +kernel) rfl rfl rfl (by decide +kernel)
set_option maxRecDepth 65536 in
theorem w_c24 : (Jvm.Cond.code ({ cls := "java/lang/AbstractStringBuilder", name := "<init>", desc := "(I)V" } : Jvm.MethodName) jdk_68_method_2_code (2 : Nat) (Option.none : Option Jvm.ClassFile.FieldType)).before args0 about1 = true := code_word (m := ⟨26, 1⟩) (meth := k26m1) (c := k26c1) (by decide +kernel) rfl rfl rfl (by decide +kernel)
set_option maxRecDepth 65536 in
theorem w_c25 : (Jvm.Cond.code ({ cls := "java/lang/StringBuilder", name := "append", desc := "(Ljava/lang/String;)Ljava/lang/StringBuilder;" } : Jvm.MethodName) jdk_67_method_7_code (2 : Nat) (Option.some (Jvm.ClassFile.FieldType.object "java/lang/StringBuilder"))).before args0 about1 = true := code_word (m := ⟨27, 1⟩) (meth := k27m1) (c := k27c1) (by decide +kernel) rfl rfl rfl (by decide +kernel)
set_option maxRecDepth 65536 in
theorem w_c26 : (Jvm.Cond.code ({ cls := "java/lang/AbstractStringBuilder", name := "append", desc := "(Ljava/lang/String;)Ljava/lang/AbstractStringBuilder;" } : Jvm.MethodName) jdk_68_method_22_code (3 : Nat) (Option.some (Jvm.ClassFile.FieldType.object "java/lang/AbstractStringBuilder"))).before args0 about1 = true := code_word (m := ⟨26, 4⟩) (meth := k26m4) (c := k26c4) (by decide +kernel) rfl rfl rfl (by decide +kernel)
set_option maxRecDepth 65536 in
theorem w_c27 : (Jvm.Cond.code ({ cls := "java/lang/String", name := "length", desc := "()I" } : Jvm.MethodName) jdk_42_method_54_code (1 : Nat) (Option.some Jvm.ClassFile.FieldType.int)).before args0 about1 = true := code_word (m := ⟨7, 3⟩) (meth := k7m3) (c := k7c3) (by decide +kernel) rfl rfl rfl (by decide +kernel)
set_option maxRecDepth 65536 in
theorem w_c28 : (Jvm.Cond.code ({ cls := "java/lang/String", name := "coder", desc := "()B" } : Jvm.MethodName) jdk_42_method_152_code (1 : Nat) (Option.some Jvm.ClassFile.FieldType.byte)).before args0 about1 = true := code_word (m := ⟨7, 10⟩) (meth := k7m10) (c := k7c10) (by decide +kernel) rfl rfl rfl (by decide +kernel)
set_option maxRecDepth 65536 in
theorem w_c29 : (Jvm.Cond.code ({ cls := "java/lang/AbstractStringBuilder", name := "ensureCapacityInternal", desc := "(I)V" } : Jvm.MethodName) jdk_68_method_9_code (3 : Nat) (Option.none : Option Jvm.ClassFile.FieldType)).before args0 about1 = true := code_word (m := ⟨26, 3⟩) (meth := k26m3) (c := k26c3) (by decide +kernel) rfl rfl rfl (by decide +kernel)
set_option maxRecDepth 65536 in
theorem w_c30 : (Jvm.Cond.code ({ cls := "java/lang/AbstractStringBuilder", name := "putStringAt", desc := "(ILjava/lang/String;)V" } : Jvm.MethodName) jdk_68_method_73_code (3 : Nat) (Option.none : Option Jvm.ClassFile.FieldType)).before args0 about1 = true := code_word (m := ⟨26, 8⟩) (meth := k26m8) (c := k26c8) (by decide +kernel) rfl rfl rfl (by decide +kernel)
set_option maxRecDepth 65536 in
theorem w_c31 : (Jvm.Cond.code ({ cls := "java/lang/AbstractStringBuilder", name := "inflateIfNeededFor", desc := "(Ljava/lang/String;)V" } : Jvm.MethodName) jdk_68_method_71_code (2 : Nat) (Option.none : Option Jvm.ClassFile.FieldType)).before args0 about1 = true := code_word (m := ⟨26, 7⟩) (meth := k26m7) (c := k26c7) (by decide +kernel) rfl rfl rfl (by decide +kernel)
set_option maxRecDepth 65536 in
theorem w_c32 : (Jvm.Cond.code ({ cls := "java/lang/String", name := "getBytes", desc := "([BIB)V" } : Jvm.MethodName) jdk_42_method_147_code (4 : Nat) (Option.none : Option Jvm.ClassFile.FieldType)).before args0 about1 = true := code_word (m := ⟨7, 6⟩) (meth := k7m6) (c := k7c6) (by decide +kernel) rfl rfl rfl (by decide +kernel)
set_option maxRecDepth 65536 in
theorem w_c33 : (Jvm.Cond.code ({ cls := "java/lang/StringBuilder", name := "toString", desc := "()Ljava/lang/String;" } : Jvm.MethodName) jdk_67_method_42_code (1 : Nat) (Option.some (Jvm.ClassFile.FieldType.object "java/lang/String"))).before args0 about1 = true := code_word (m := ⟨27, 2⟩) (meth := k27m2) (c := k27c2) (by decide +kernel) rfl rfl rfl (by decide +kernel)
set_option maxRecDepth 65536 in
theorem w_c34 : (Jvm.Cond.code ({ cls := "java/lang/String", name := "<init>", desc := "(Ljava/lang/StringBuilder;)V" } : Jvm.MethodName) jdk_42_method_53_code (2 : Nat) (Option.none : Option Jvm.ClassFile.FieldType)).before args0 about1 = true := code_word (m := ⟨7, 2⟩) (meth := k7m2) (c := k7c2) (by decide +kernel) rfl rfl rfl (by decide +kernel)
set_option maxRecDepth 65536 in
theorem w_c35 : (Jvm.Cond.code ({ cls := "java/lang/String", name := "<init>", desc := "(Ljava/lang/AbstractStringBuilder;Ljava/lang/Void;)V" } : Jvm.MethodName) jdk_42_method_150_code (5 : Nat) (Option.none : Option Jvm.ClassFile.FieldType)).before args0 about1 = true := code_word (m := ⟨7, 8⟩) (meth := k7m8) (c := k7c8) (by decide +kernel) rfl rfl rfl (by decide +kernel)
set_option maxRecDepth 65536 in
theorem w_c36 : (Jvm.Cond.code ({ cls := "java/lang/AbstractStringBuilder", name := "getValue", desc := "()[B" } : Jvm.MethodName) jdk_68_method_64_code (1 : Nat) (Option.some (Jvm.ClassFile.FieldType.array Jvm.ClassFile.FieldType.byte))).before args0 about1 = true := code_word (m := ⟨26, 5⟩) (meth := k26m5) (c := k26c5) (by decide +kernel) rfl rfl rfl (by decide +kernel)
set_option maxRecDepth 65536 in
theorem w_c37 : (Jvm.Cond.code ({ cls := "java/lang/StringBuilder", name := "length", desc := "()I" } : Jvm.MethodName) jdk_67_method_93_code (1 : Nat) (Option.some Jvm.ClassFile.FieldType.int)).before args0 about1 = true := code_word (m := ⟨27, 3⟩) (meth := k27m3) (c := k27c3) (by decide +kernel) rfl rfl rfl (by decide +kernel)
set_option maxRecDepth 65536 in
theorem w_c38 : (Jvm.Cond.code ({ cls := "java/lang/AbstractStringBuilder", name := "length", desc := "()I" } : Jvm.MethodName) jdk_68_method_6_code (1 : Nat) (Option.some Jvm.ClassFile.FieldType.int)).before args0 about1 = true := code_word (m := ⟨26, 2⟩) (meth := k26m2) (c := k26c2) (by decide +kernel) rfl rfl rfl (by decide +kernel)
set_option maxRecDepth 65536 in
theorem w_c39 : (Jvm.Cond.code ({ cls := "java/lang/AbstractStringBuilder", name := "isLatin1", desc := "()Z" } : Jvm.MethodName) jdk_68_method_68_code (1 : Nat) (Option.some Jvm.ClassFile.FieldType.boolean)).before args0 about1 = true := code_word (m := ⟨26, 6⟩) (meth := k26m6) (c := k26c6) (by decide +kernel) rfl rfl rfl (by decide +kernel)
set_option maxRecDepth 65536 in
theorem w_c40 : (Jvm.Cond.code ({ cls := "java/util/Arrays", name := "copyOfRange", desc := "([BII)[B" } : Jvm.MethodName) jdk_65_method_132_code (3 : Nat) (Option.some (Jvm.ClassFile.FieldType.array Jvm.ClassFile.FieldType.byte))).before args0 about1 = true := code_word (m := ⟨29, 4⟩) (meth := k29m4) (c := k29c4) (by decide +kernel) rfl rfl rfl (by decide +kernel)
set_option maxRecDepth 65536 in
theorem w_c41 : (Jvm.Cond.code ({ cls := "java/util/Arrays", name := "copyOfRangeByte", desc := "([BII)[B" } : Jvm.MethodName) jdk_65_method_133_code (5 : Nat) (Option.some (Jvm.ClassFile.FieldType.array Jvm.ClassFile.FieldType.byte))).before args0 about1 = true := code_word (m := ⟨29, 5⟩) (meth := k29m5) (c := k29c5) (by decide +kernel) rfl rfl rfl (by decide +kernel)
set_option maxRecDepth 65536 in
theorem w_c42 : (Jvm.Cond.code ({ cls := "java/util/Arrays", name := "checkLength", desc := "(II)V" } : Jvm.MethodName) jdk_65_method_131_code (2 : Nat) (Option.none : Option Jvm.ClassFile.FieldType)).before args0 about1 = true := code_word (m := ⟨29, 3⟩) (meth := k29m3) (c := k29c3) (by decide +kernel) rfl rfl rfl (by decide +kernel)
set_option maxRecDepth 65536 in
theorem w_c43 : (Jvm.Cond.code ({ cls := "java/lang/Math", name := "min", desc := "(II)I" } : Jvm.MethodName) jdk_29_method_69_code (2 : Nat) (Option.some Jvm.ClassFile.FieldType.int)).before args0 about1 = true := code_word (m := ⟨30, 2⟩) (meth := k30m2) (c := k30c2) (by decide +kernel) rfl rfl rfl (by decide +kernel)
set_option maxRecDepth 65536 in
theorem w_c44 : (Jvm.Cond.code ({ cls := "java/util/ArrayList", name := "add", desc := "(Ljava/lang/Object;)Z" } : Jvm.MethodName) jdk_38_method_25_code (2 : Nat) (Option.some Jvm.ClassFile.FieldType.boolean)).before args0 about1 = true := code_word (m := ⟨19, 6⟩) (meth := k19m6) (c := k19c6) (by decide +kernel) rfl rfl rfl (by decide +kernel)
set_option maxRecDepth 65536 in
theorem w_c45 : (Jvm.Cond.code ({ cls := "java/util/ArrayList", name := "add", desc := "(Ljava/lang/Object;[Ljava/lang/Object;I)V" } : Jvm.MethodName) jdk_38_method_24_code (4 : Nat) (Option.none : Option Jvm.ClassFile.FieldType)).before args0 about1 = true := code_word (m := ⟨19, 5⟩) (meth := k19m5) (c := k19c5) (by decide +kernel) rfl rfl rfl (by decide +kernel)
set_option maxRecDepth 65536 in
theorem w_c46 : (Jvm.Cond.code ({ cls := "java/util/ArrayList", name := "grow", desc := "()[Ljava/lang/Object;" } : Jvm.MethodName) jdk_38_method_7_code (1 : Nat) (Option.some (Jvm.ClassFile.FieldType.array (Jvm.ClassFile.FieldType.object "java/lang/Object")))).before args0 about1 = true := code_word (m := ⟨19, 2⟩) (meth := k19m2) (c := k19c2) (by decide +kernel) rfl rfl rfl (by decide +kernel)
set_option maxRecDepth 65536 in
theorem w_c47 : (Jvm.Cond.code ({ cls := "java/util/ArrayList", name := "grow", desc := "(I)[Ljava/lang/Object;" } : Jvm.MethodName) jdk_38_method_6_code (4 : Nat) (Option.some (Jvm.ClassFile.FieldType.array (Jvm.ClassFile.FieldType.object "java/lang/Object")))).before args0 about1 = true := code_word (m := ⟨19, 1⟩) (meth := k19m1) (c := k19c1) (by decide +kernel) rfl rfl rfl (by decide +kernel)
set_option maxRecDepth 65536 in
theorem w_c48 : (Jvm.Cond.code ({ cls := "java/lang/Math", name := "max", desc := "(II)I" } : Jvm.MethodName) jdk_29_method_65_code (2 : Nat) (Option.some Jvm.ClassFile.FieldType.int)).before args0 about1 = true := code_word (m := ⟨30, 1⟩) (meth := k30m1) (c := k30c1) (by decide +kernel) rfl rfl rfl (by decide +kernel)
set_option maxRecDepth 65536 in
theorem w_c49 : (Jvm.Cond.code ({ cls := "java/util/ArrayList", name := "toArray", desc := "()[Ljava/lang/Object;" } : Jvm.MethodName) jdk_38_method_16_code (1 : Nat) (Option.some (Jvm.ClassFile.FieldType.array (Jvm.ClassFile.FieldType.object "java/lang/Object")))).before args0 about1 = true := code_word (m := ⟨19, 4⟩) (meth := k19m4) (c := k19c4) (by decide +kernel) rfl rfl rfl (by decide +kernel)
set_option maxRecDepth 65536 in
theorem w_c50 : (Jvm.Cond.code ({ cls := "java/util/Arrays", name := "copyOf", desc := "([Ljava/lang/Object;I)[Ljava/lang/Object;" } : Jvm.MethodName) jdk_65_method_119_code (2 : Nat) (Option.some (Jvm.ClassFile.FieldType.array (Jvm.ClassFile.FieldType.object "java/lang/Object")))).before args0 about1 = true := code_word (m := ⟨29, 1⟩) (meth := k29m1) (c := k29c1) (by decide +kernel) rfl rfl rfl (by decide +kernel)
set_option maxRecDepth 65536 in
theorem w_c51 : (Jvm.Cond.code ({ cls := "java/util/Arrays", name := "copyOf", desc := "([Ljava/lang/Object;ILjava/lang/Class;)[Ljava/lang/Object;" } : Jvm.MethodName) jdk_65_method_120_code (4 : Nat) (Option.some (Jvm.ClassFile.FieldType.array (Jvm.ClassFile.FieldType.object "java/lang/Object")))).before args0 about1 = true := code_word (m := ⟨29, 2⟩) (meth := k29m2) (c := k29c2) (by decide +kernel) rfl rfl rfl (by decide +kernel)
set_option maxRecDepth 65536 in
theorem w_c52 : (Jvm.Cond.code ({ cls := "java/util/List", name := "of", desc := "([Ljava/lang/Object;)Ljava/util/List;" } : Jvm.MethodName) jdk_40_method_47_code (2 : Nat) (Option.some (Jvm.ClassFile.FieldType.object "java/util/List"))).before args0 about1 = true := code_word (m := ⟨15, 5⟩) (meth := k15m5) (c := k15c5) (by decide +kernel) rfl rfl rfl (by decide +kernel)
set_option maxRecDepth 65536 in
theorem w_c53 : (Jvm.Cond.code ({ cls := "java/util/ImmutableCollections$List12", name := "<init>", desc := "(Ljava/lang/Object;Ljava/lang/Object;)V" } : Jvm.MethodName) jdk_44_method_2_code (3 : Nat) (Option.none : Option Jvm.ClassFile.FieldType)).before args0 about1 = true := code_word (m := ⟨23, 0⟩) (meth := k23m0) (c := k23c0) (by decide +kernel) rfl rfl rfl (by decide +kernel)
set_option maxRecDepth 65536 in
theorem w_c54 : (Jvm.Cond.code ({ cls := "java/util/ImmutableCollections$AbstractImmutableList", name := "<init>", desc := "()V" } : Jvm.MethodName) jdk_46_method_1_code (1 : Nat) (Option.none : Option Jvm.ClassFile.FieldType)).before args0 about1 = true := code_word (m := ⟨22, 0⟩) (meth := k22m0) (c := k22c0) (by decide +kernel) rfl rfl rfl (by decide +kernel)
set_option maxRecDepth 65536 in
theorem w_c55 : (Jvm.Cond.code ({ cls := "java/util/ImmutableCollections$AbstractImmutableCollection", name := "<init>", desc := "()V" } : Jvm.MethodName) jdk_47_method_1_code (1 : Nat) (Option.none : Option Jvm.ClassFile.FieldType)).before args0 about1 = true := code_word (m := ⟨21, 0⟩) (meth := k21m0) (c := k21c0) (by decide +kernel) rfl rfl rfl (by decide +kernel)
set_option maxRecDepth 65536 in
theorem w_c56 : (Jvm.Cond.code ({ cls := "java/util/Objects", name := "requireNonNull", desc := "(Ljava/lang/Object;)Ljava/lang/Object;" } : Jvm.MethodName) jdk_31_method_10_code (1 : Nat) (Option.some (Jvm.ClassFile.FieldType.object "java/lang/Object"))).before args0 about1 = true := code_word (m := ⟨31, 1⟩) (meth := k31m1) (c := k31c1) (by decide +kernel) rfl rfl rfl (by decide +kernel)
set_option maxRecDepth 65536 in
theorem w_c57 : (Jvm.Cond.code ({ cls := "java/util/ImmutableCollections$List12", name := "size", desc := "()I" } : Jvm.MethodName) jdk_44_method_3_code (1 : Nat) (Option.some Jvm.ClassFile.FieldType.int)).before args0 about1 = true := code_word (m := ⟨23, 1⟩) (meth := k23m1) (c := k23c1) (by decide +kernel) rfl rfl rfl (by decide +kernel)
set_option maxRecDepth 65536 in
theorem w_c58 : (Jvm.Cond.code ({ cls := "java/util/ImmutableCollections$List12", name := "get", desc := "(I)Ljava/lang/Object;" } : Jvm.MethodName) jdk_44_method_5_code (2 : Nat) (Option.some (Jvm.ClassFile.FieldType.object "java/lang/Object"))).before args0 about1 = true := code_word (m := ⟨23, 2⟩) (meth := k23m2) (c := k23c2) (by decide +kernel) rfl rfl rfl (by decide +kernel)
set_option maxRecDepth 65536 in
theorem w_c59 : (Jvm.Cond.code ({ cls := "java/lang/String", name := "equals", desc := "(Ljava/lang/Object;)Z" } : Jvm.MethodName) jdk_42_method_66_code (3 : Nat) (Option.some Jvm.ClassFile.FieldType.boolean)).before args0 about1 = true := code_word (m := ⟨7, 4⟩) (meth := k7m4) (c := k7c4) (by decide +kernel) rfl rfl rfl (by decide +kernel)
set_option maxRecDepth 65536 in
theorem w_c60 : (Jvm.Cond.code ({ cls := "java/lang/StringLatin1", name := "equals", desc := "([B[B)Z" } : Jvm.MethodName) jdk_43_method_13_code (3 : Nat) (Option.some Jvm.ClassFile.FieldType.boolean)).before args0 about1 = true := code_word (m := ⟨9, 2⟩) (meth := k9m2) (c := k9c2) (by decide +kernel) rfl rfl rfl (by decide +kernel)
def codes1 : List Jvm.Cond := [Jvm.Cond.code x code maxLocals ret, Jvm.Cond.code ({ cls := "java/lang/String", name := "<init>", desc := "([C)V" } : Jvm.MethodName) jdk_42_method_3_code (2 : Nat) (Option.none : Option Jvm.ClassFile.FieldType), Jvm.Cond.code ({ cls := "java/lang/String", name := "<init>", desc := "([CIILjava/lang/Void;)V" } : Jvm.MethodName) jdk_42_method_149_code (6 : Nat) (Option.none : Option Jvm.ClassFile.FieldType), Jvm.Cond.code ({ cls := "java/lang/Object", name := "<init>", desc := "()V" } : Jvm.MethodName) object_method_1_code (1 : Nat) (Option.none : Option Jvm.ClassFile.FieldType), Jvm.Cond.code ({ cls := "java/lang/StringUTF16", name := "compress", desc := "([CII)[B" } : Jvm.MethodName) jdk_52_method_16_code (6 : Nat) (Option.some (Jvm.ClassFile.FieldType.array Jvm.ClassFile.FieldType.byte)), Jvm.Cond.code ({ cls := "java/lang/StringUTF16", name := "compress", desc := "([CI[BII)I" } : Jvm.MethodName) jdk_52_method_21_code (7 : Nat) (Option.some Jvm.ClassFile.FieldType.int), Jvm.Cond.code ({ cls := "java/lang/StringUTF16", name := "coderFromArrayLen", desc := "([BI)B" } : Jvm.MethodName) jdk_52_method_15_code (2 : Nat) (Option.some Jvm.ClassFile.FieldType.byte), Jvm.Cond.code ({ cls := "java/lang/String", name := "valueOf", desc := "(C)Ljava/lang/String;" } : Jvm.MethodName) jdk_42_method_139_code (1 : Nat) (Option.some (Jvm.ClassFile.FieldType.object "java/lang/String")), Jvm.Cond.code ({ cls := "java/lang/StringLatin1", name := "canEncode", desc := "(C)Z" } : Jvm.MethodName) jdk_43_method_3_code (1 : Nat) (Option.some Jvm.ClassFile.FieldType.boolean), Jvm.Cond.code ({ cls := "java/lang/StringLatin1", name := "toBytes", desc := "(C)[B" } : Jvm.MethodName) jdk_43_method_46_code (1 : Nat) (Option.some (Jvm.ClassFile.FieldType.array Jvm.ClassFile.FieldType.byte)), Jvm.Cond.code ({ cls := "java/lang/String", name := "<init>", desc := "([BB)V" } : Jvm.MethodName) jdk_42_method_151_code (3 : Nat) (Option.none : Option Jvm.ClassFile.FieldType), Jvm.Cond.code ({ cls := "com/example/nroute/nroute/route/Mistakes", name := "<init>", desc := "()V" } : Jvm.MethodName) prog_26_method_1_code (1 : Nat) (Option.none : Option Jvm.ClassFile.FieldType), Jvm.Cond.code ({ cls := "java/util/ArrayList", name := "<init>", desc := "()V" } : Jvm.MethodName) jdk_38_method_2_code (1 : Nat) (Option.none : Option Jvm.ClassFile.FieldType), Jvm.Cond.code ({ cls := "java/util/AbstractList", name := "<init>", desc := "()V" } : Jvm.MethodName) jdk_39_method_1_code (1 : Nat) (Option.none : Option Jvm.ClassFile.FieldType), Jvm.Cond.code ({ cls := "java/util/AbstractCollection", name := "<init>", desc := "()V" } : Jvm.MethodName) jdk_22_method_1_code (1 : Nat) (Option.none : Option Jvm.ClassFile.FieldType), Jvm.Cond.code ({ cls := "com/example/nroute/nroute/route/Mistakes", name := "isEmpty", desc := "()Z" } : Jvm.MethodName) prog_26_method_3_code (1 : Nat) (Option.some Jvm.ClassFile.FieldType.boolean), Jvm.Cond.code ({ cls := "java/util/ArrayList", name := "isEmpty", desc := "()Z" } : Jvm.MethodName) jdk_38_method_9_code (1 : Nat) (Option.some Jvm.ClassFile.FieldType.boolean), Jvm.Cond.code ({ cls := "com/example/nroute/nroute/route/Mistakes", name := "lines", desc := "()Ljava/util/List;" } : Jvm.MethodName) prog_26_method_4_code (1 : Nat) (Option.some (Jvm.ClassFile.FieldType.object "java/util/List")), Jvm.Cond.code ({ cls := "java/util/List", name := "copyOf", desc := "(Ljava/util/Collection;)Ljava/util/List;" } : Jvm.MethodName) jdk_40_method_48_code (1 : Nat) (Option.some (Jvm.ClassFile.FieldType.object "java/util/List")), Jvm.Cond.code ({ cls := "java/util/ImmutableCollections", name := "listCopy", desc := "(Ljava/util/Collection;)Ljava/util/List;" } : Jvm.MethodName) jdk_56_method_3_code (2 : Nat) (Option.some (Jvm.ClassFile.FieldType.object "java/util/List")), Jvm.Cond.code ({ cls := "java/util/List", name := "of", desc := "()Ljava/util/List;" } : Jvm.MethodName) jdk_40_method_36_code (0 : Nat) (Option.some (Jvm.ClassFile.FieldType.object "java/util/List")), Jvm.Cond.code ({ cls := "java/util/ImmutableCollections$ListN", name := "size", desc := "()I" } : Jvm.MethodName) jdk_45_method_3_code (1 : Nat) (Option.some Jvm.ClassFile.FieldType.int), Jvm.Cond.code ({ cls := "com/example/nroute/nroute/route/Mistakes", name := "add", desc := "(Ljava/lang/String;Ljava/lang/String;)V" } : Jvm.MethodName) prog_26_method_2_code (3 : Nat) (Option.none : Option Jvm.ClassFile.FieldType), Jvm.Cond.code ({ cls := "java/lang/StringBuilder", name := "<init>", desc := "()V" } : Jvm.MethodName) jdk_67_method_1_code (1 : Nat) (Option.none : Option Jvm.ClassFile.FieldType), Jvm.Cond.code ({ cls := "java/lang/AbstractStringBuilder", name := "<init>", desc := "(I)V" } : Jvm.MethodName) jdk_68_method_2_code (2 : Nat) (Option.none : Option Jvm.ClassFile.FieldType), Jvm.Cond.code ({ cls := "java/lang/StringBuilder", name := "append", desc := "(Ljava/lang/String;)Ljava/lang/StringBuilder;" } : Jvm.MethodName) jdk_67_method_7_code (2 : Nat) (Option.some (Jvm.ClassFile.FieldType.object "java/lang/StringBuilder")), Jvm.Cond.code ({ cls := "java/lang/AbstractStringBuilder", name := "append", desc := "(Ljava/lang/String;)Ljava/lang/AbstractStringBuilder;" } : Jvm.MethodName) jdk_68_method_22_code (3 : Nat) (Option.some (Jvm.ClassFile.FieldType.object "java/lang/AbstractStringBuilder")), Jvm.Cond.code ({ cls := "java/lang/String", name := "length", desc := "()I" } : Jvm.MethodName) jdk_42_method_54_code (1 : Nat) (Option.some Jvm.ClassFile.FieldType.int), Jvm.Cond.code ({ cls := "java/lang/String", name := "coder", desc := "()B" } : Jvm.MethodName) jdk_42_method_152_code (1 : Nat) (Option.some Jvm.ClassFile.FieldType.byte), Jvm.Cond.code ({ cls := "java/lang/AbstractStringBuilder", name := "ensureCapacityInternal", desc := "(I)V" } : Jvm.MethodName) jdk_68_method_9_code (3 : Nat) (Option.none : Option Jvm.ClassFile.FieldType), Jvm.Cond.code ({ cls := "java/lang/AbstractStringBuilder", name := "putStringAt", desc := "(ILjava/lang/String;)V" } : Jvm.MethodName) jdk_68_method_73_code (3 : Nat) (Option.none : Option Jvm.ClassFile.FieldType), Jvm.Cond.code ({ cls := "java/lang/AbstractStringBuilder", name := "inflateIfNeededFor", desc := "(Ljava/lang/String;)V" } : Jvm.MethodName) jdk_68_method_71_code (2 : Nat) (Option.none : Option Jvm.ClassFile.FieldType), Jvm.Cond.code ({ cls := "java/lang/String", name := "getBytes", desc := "([BIB)V" } : Jvm.MethodName) jdk_42_method_147_code (4 : Nat) (Option.none : Option Jvm.ClassFile.FieldType), Jvm.Cond.code ({ cls := "java/lang/StringBuilder", name := "toString", desc := "()Ljava/lang/String;" } : Jvm.MethodName) jdk_67_method_42_code (1 : Nat) (Option.some (Jvm.ClassFile.FieldType.object "java/lang/String")), Jvm.Cond.code ({ cls := "java/lang/String", name := "<init>", desc := "(Ljava/lang/StringBuilder;)V" } : Jvm.MethodName) jdk_42_method_53_code (2 : Nat) (Option.none : Option Jvm.ClassFile.FieldType), Jvm.Cond.code ({ cls := "java/lang/String", name := "<init>", desc := "(Ljava/lang/AbstractStringBuilder;Ljava/lang/Void;)V" } : Jvm.MethodName) jdk_42_method_150_code (5 : Nat) (Option.none : Option Jvm.ClassFile.FieldType), Jvm.Cond.code ({ cls := "java/lang/AbstractStringBuilder", name := "getValue", desc := "()[B" } : Jvm.MethodName) jdk_68_method_64_code (1 : Nat) (Option.some (Jvm.ClassFile.FieldType.array Jvm.ClassFile.FieldType.byte)), Jvm.Cond.code ({ cls := "java/lang/StringBuilder", name := "length", desc := "()I" } : Jvm.MethodName) jdk_67_method_93_code (1 : Nat) (Option.some Jvm.ClassFile.FieldType.int), Jvm.Cond.code ({ cls := "java/lang/AbstractStringBuilder", name := "length", desc := "()I" } : Jvm.MethodName) jdk_68_method_6_code (1 : Nat) (Option.some Jvm.ClassFile.FieldType.int), Jvm.Cond.code ({ cls := "java/lang/AbstractStringBuilder", name := "isLatin1", desc := "()Z" } : Jvm.MethodName) jdk_68_method_68_code (1 : Nat) (Option.some Jvm.ClassFile.FieldType.boolean), Jvm.Cond.code ({ cls := "java/util/Arrays", name := "copyOfRange", desc := "([BII)[B" } : Jvm.MethodName) jdk_65_method_132_code (3 : Nat) (Option.some (Jvm.ClassFile.FieldType.array Jvm.ClassFile.FieldType.byte)), Jvm.Cond.code ({ cls := "java/util/Arrays", name := "copyOfRangeByte", desc := "([BII)[B" } : Jvm.MethodName) jdk_65_method_133_code (5 : Nat) (Option.some (Jvm.ClassFile.FieldType.array Jvm.ClassFile.FieldType.byte)), Jvm.Cond.code ({ cls := "java/util/Arrays", name := "checkLength", desc := "(II)V" } : Jvm.MethodName) jdk_65_method_131_code (2 : Nat) (Option.none : Option Jvm.ClassFile.FieldType), Jvm.Cond.code ({ cls := "java/lang/Math", name := "min", desc := "(II)I" } : Jvm.MethodName) jdk_29_method_69_code (2 : Nat) (Option.some Jvm.ClassFile.FieldType.int), Jvm.Cond.code ({ cls := "java/util/ArrayList", name := "add", desc := "(Ljava/lang/Object;)Z" } : Jvm.MethodName) jdk_38_method_25_code (2 : Nat) (Option.some Jvm.ClassFile.FieldType.boolean), Jvm.Cond.code ({ cls := "java/util/ArrayList", name := "add", desc := "(Ljava/lang/Object;[Ljava/lang/Object;I)V" } : Jvm.MethodName) jdk_38_method_24_code (4 : Nat) (Option.none : Option Jvm.ClassFile.FieldType), Jvm.Cond.code ({ cls := "java/util/ArrayList", name := "grow", desc := "()[Ljava/lang/Object;" } : Jvm.MethodName) jdk_38_method_7_code (1 : Nat) (Option.some (Jvm.ClassFile.FieldType.array (Jvm.ClassFile.FieldType.object "java/lang/Object"))), Jvm.Cond.code ({ cls := "java/util/ArrayList", name := "grow", desc := "(I)[Ljava/lang/Object;" } : Jvm.MethodName) jdk_38_method_6_code (4 : Nat) (Option.some (Jvm.ClassFile.FieldType.array (Jvm.ClassFile.FieldType.object "java/lang/Object"))), Jvm.Cond.code ({ cls := "java/lang/Math", name := "max", desc := "(II)I" } : Jvm.MethodName) jdk_29_method_65_code (2 : Nat) (Option.some Jvm.ClassFile.FieldType.int), Jvm.Cond.code ({ cls := "java/util/ArrayList", name := "toArray", desc := "()[Ljava/lang/Object;" } : Jvm.MethodName) jdk_38_method_16_code (1 : Nat) (Option.some (Jvm.ClassFile.FieldType.array (Jvm.ClassFile.FieldType.object "java/lang/Object"))), Jvm.Cond.code ({ cls := "java/util/Arrays", name := "copyOf", desc := "([Ljava/lang/Object;I)[Ljava/lang/Object;" } : Jvm.MethodName) jdk_65_method_119_code (2 : Nat) (Option.some (Jvm.ClassFile.FieldType.array (Jvm.ClassFile.FieldType.object "java/lang/Object"))), Jvm.Cond.code ({ cls := "java/util/Arrays", name := "copyOf", desc := "([Ljava/lang/Object;ILjava/lang/Class;)[Ljava/lang/Object;" } : Jvm.MethodName) jdk_65_method_120_code (4 : Nat) (Option.some (Jvm.ClassFile.FieldType.array (Jvm.ClassFile.FieldType.object "java/lang/Object"))), Jvm.Cond.code ({ cls := "java/util/List", name := "of", desc := "([Ljava/lang/Object;)Ljava/util/List;" } : Jvm.MethodName) jdk_40_method_47_code (2 : Nat) (Option.some (Jvm.ClassFile.FieldType.object "java/util/List")), Jvm.Cond.code ({ cls := "java/util/ImmutableCollections$List12", name := "<init>", desc := "(Ljava/lang/Object;Ljava/lang/Object;)V" } : Jvm.MethodName) jdk_44_method_2_code (3 : Nat) (Option.none : Option Jvm.ClassFile.FieldType), Jvm.Cond.code ({ cls := "java/util/ImmutableCollections$AbstractImmutableList", name := "<init>", desc := "()V" } : Jvm.MethodName) jdk_46_method_1_code (1 : Nat) (Option.none : Option Jvm.ClassFile.FieldType), Jvm.Cond.code ({ cls := "java/util/ImmutableCollections$AbstractImmutableCollection", name := "<init>", desc := "()V" } : Jvm.MethodName) jdk_47_method_1_code (1 : Nat) (Option.none : Option Jvm.ClassFile.FieldType), Jvm.Cond.code ({ cls := "java/util/Objects", name := "requireNonNull", desc := "(Ljava/lang/Object;)Ljava/lang/Object;" } : Jvm.MethodName) jdk_31_method_10_code (1 : Nat) (Option.some (Jvm.ClassFile.FieldType.object "java/lang/Object")), Jvm.Cond.code ({ cls := "java/util/ImmutableCollections$List12", name := "size", desc := "()I" } : Jvm.MethodName) jdk_44_method_3_code (1 : Nat) (Option.some Jvm.ClassFile.FieldType.int), Jvm.Cond.code ({ cls := "java/util/ImmutableCollections$List12", name := "get", desc := "(I)Ljava/lang/Object;" } : Jvm.MethodName) jdk_44_method_5_code (2 : Nat) (Option.some (Jvm.ClassFile.FieldType.object "java/lang/Object")), Jvm.Cond.code ({ cls := "java/lang/String", name := "equals", desc := "(Ljava/lang/Object;)Z" } : Jvm.MethodName) jdk_42_method_66_code (3 : Nat) (Option.some Jvm.ClassFile.FieldType.boolean), Jvm.Cond.code ({ cls := "java/lang/StringLatin1", name := "equals", desc := "([B[B)Z" } : Jvm.MethodName) jdk_43_method_13_code (3 : Nat) (Option.some Jvm.ClassFile.FieldType.boolean)]
set_option maxRecDepth 65536 in
theorem codes_eq : words1.filter isCode = codes1 := rfl
theorem w_codes : ∀ c ∈ words1.filter isCode, c.before args0 about1 = true := by
  rw [codes_eq]
  intro c hc
  simp only [codes1, List.mem_cons, List.not_mem_nil, or_false] at hc
  rcases hc with rfl | rfl | rfl | rfl | rfl | rfl | rfl | rfl | rfl | rfl | rfl | rfl | rfl | rfl | rfl | rfl | rfl | rfl | rfl | rfl | rfl | rfl | rfl | rfl | rfl | rfl | rfl | rfl | rfl | rfl | rfl | rfl | rfl | rfl | rfl | rfl | rfl | rfl | rfl | rfl | rfl | rfl | rfl | rfl | rfl | rfl | rfl | rfl | rfl | rfl | rfl | rfl | rfl | rfl | rfl | rfl | rfl | rfl | rfl | rfl | rfl
  · exact w_c0
  · exact w_c1
  · exact w_c2
  · exact w_c3
  · exact w_c4
  · exact w_c5
  · exact w_c6
  · exact w_c7
  · exact w_c8
  · exact w_c9
  · exact w_c10
  · exact w_c11
  · exact w_c12
  · exact w_c13
  · exact w_c14
  · exact w_c15
  · exact w_c16
  · exact w_c17
  · exact w_c18
  · exact w_c19
  · exact w_c20
  · exact w_c21
  · exact w_c22
  · exact w_c23
  · exact w_c24
  · exact w_c25
  · exact w_c26
  · exact w_c27
  · exact w_c28
  · exact w_c29
  · exact w_c30
  · exact w_c31
  · exact w_c32
  · exact w_c33
  · exact w_c34
  · exact w_c35
  · exact w_c36
  · exact w_c37
  · exact w_c38
  · exact w_c39
  · exact w_c40
  · exact w_c41
  · exact w_c42
  · exact w_c43
  · exact w_c44
  · exact w_c45
  · exact w_c46
  · exact w_c47
  · exact w_c48
  · exact w_c49
  · exact w_c50
  · exact w_c51
  · exact w_c52
  · exact w_c53
  · exact w_c54
  · exact w_c55
  · exact w_c56
  · exact w_c57
  · exact w_c58
  · exact w_c59
  · exact w_c60
set_option maxRecDepth 65536 in
theorem w_t1 : (words1.take 24).all (fun c => isCode c || c.before args0 about1) = true := by decide +kernel
set_option maxRecDepth 65536 in
theorem w_t2 : ((words1.drop 24).take 24).all (fun c => isCode c || c.before args0 about1) = true := by decide +kernel
set_option maxRecDepth 65536 in
theorem w_t3 : (((words1.drop 24).drop 24).take 24).all (fun c => isCode c || c.before args0 about1) = true := by decide +kernel
set_option maxRecDepth 65536 in
theorem w_t4 : ((((words1.drop 24).drop 24).drop 24).take 24).all (fun c => isCode c || c.before args0 about1) = true := by decide +kernel
set_option maxRecDepth 65536 in
theorem w_t5 : (((((words1.drop 24).drop 24).drop 24).drop 24).take 24).all (fun c => isCode c || c.before args0 about1) = true := by decide +kernel
set_option maxRecDepth 65536 in
theorem w_t6 : ((((((words1.drop 24).drop 24).drop 24).drop 24).drop 24).take 24).all (fun c => isCode c || c.before args0 about1) = true := by decide +kernel
set_option maxRecDepth 65536 in
theorem w_t7 : (((((((words1.drop 24).drop 24).drop 24).drop 24).drop 24).drop 24).take 24).all (fun c => isCode c || c.before args0 about1) = true := by decide +kernel
set_option maxRecDepth 65536 in
theorem w_t8 : ((((((((words1.drop 24).drop 24).drop 24).drop 24).drop 24).drop 24).drop 24).take 24).all (fun c => isCode c || c.before args0 about1) = true := by decide +kernel
set_option maxRecDepth 65536 in
theorem w_t9 : (((((((((words1.drop 24).drop 24).drop 24).drop 24).drop 24).drop 24).drop 24).drop 24).take 24).all (fun c => isCode c || c.before args0 about1) = true := by decide +kernel
set_option maxRecDepth 65536 in
theorem w_t10 : ((((((((((words1.drop 24).drop 24).drop 24).drop 24).drop 24).drop 24).drop 24).drop 24).drop 24).take 24).all (fun c => isCode c || c.before args0 about1) = true := by decide +kernel
set_option maxRecDepth 65536 in
theorem w_t11 : (((((((((((words1.drop 24).drop 24).drop 24).drop 24).drop 24).drop 24).drop 24).drop 24).drop 24).drop 24).take 24).all (fun c => isCode c || c.before args0 about1) = true := by decide +kernel
set_option maxRecDepth 65536 in
theorem w_t12 : ((((((((((((words1.drop 24).drop 24).drop 24).drop 24).drop 24).drop 24).drop 24).drop 24).drop 24).drop 24).drop 24).take 24).all (fun c => isCode c || c.before args0 about1) = true := by decide +kernel
set_option maxRecDepth 65536 in
theorem w_t13 : (((((((((((((words1.drop 24).drop 24).drop 24).drop 24).drop 24).drop 24).drop 24).drop 24).drop 24).drop 24).drop 24).drop 24).take 24).all (fun c => isCode c || c.before args0 about1) = true := by decide +kernel
set_option maxRecDepth 65536 in
theorem w_t14 : ((((((((((((((words1.drop 24).drop 24).drop 24).drop 24).drop 24).drop 24).drop 24).drop 24).drop 24).drop 24).drop 24).drop 24).drop 24).take 24).all (fun c => isCode c || c.before args0 about1) = true := by decide +kernel
set_option maxRecDepth 65536 in
theorem w_t15 : (((((((((((((((words1.drop 24).drop 24).drop 24).drop 24).drop 24).drop 24).drop 24).drop 24).drop 24).drop 24).drop 24).drop 24).drop 24).drop 24).take 24).all (fun c => isCode c || c.before args0 about1) = true := by decide +kernel
set_option maxRecDepth 65536 in
theorem w_t16 : (((((((((((((((words1.drop 24).drop 24).drop 24).drop 24).drop 24).drop 24).drop 24).drop 24).drop 24).drop 24).drop 24).drop 24).drop 24).drop 24).drop 24).all (fun c => isCode c || c.before args0 about1) = true := by decide +kernel
theorem w_tables : (allAtoms (Jvm.Cond.code x code maxLocals ret :: tables_1)).before args0 about1 = true := by
  rw [allAtoms_all]
  show words1.all (fun c => c.before args0 about1) = true
  refine all_split ?_ w_codes
  rw [← List.take_append_drop 24 words1, List.all_append, w_t1, ← List.take_append_drop 24 (words1.drop 24), List.all_append, w_t2, ← List.take_append_drop 24 ((words1.drop 24).drop 24), List.all_append, w_t3, ← List.take_append_drop 24 (((words1.drop 24).drop 24).drop 24), List.all_append, w_t4, ← List.take_append_drop 24 ((((words1.drop 24).drop 24).drop 24).drop 24), List.all_append, w_t5, ← List.take_append_drop 24 (((((words1.drop 24).drop 24).drop 24).drop 24).drop 24), List.all_append, w_t6, ← List.take_append_drop 24 ((((((words1.drop 24).drop 24).drop 24).drop 24).drop 24).drop 24), List.all_append, w_t7, ← List.take_append_drop 24 (((((((words1.drop 24).drop 24).drop 24).drop 24).drop 24).drop 24).drop 24), List.all_append, w_t8, ← List.take_append_drop 24 ((((((((words1.drop 24).drop 24).drop 24).drop 24).drop 24).drop 24).drop 24).drop 24), List.all_append, w_t9, ← List.take_append_drop 24 (((((((((words1.drop 24).drop 24).drop 24).drop 24).drop 24).drop 24).drop 24).drop 24).drop 24), List.all_append, w_t10, ← List.take_append_drop 24 ((((((((((words1.drop 24).drop 24).drop 24).drop 24).drop 24).drop 24).drop 24).drop 24).drop 24).drop 24), List.all_append, w_t11, ← List.take_append_drop 24 (((((((((((words1.drop 24).drop 24).drop 24).drop 24).drop 24).drop 24).drop 24).drop 24).drop 24).drop 24).drop 24), List.all_append, w_t12, ← List.take_append_drop 24 ((((((((((((words1.drop 24).drop 24).drop 24).drop 24).drop 24).drop 24).drop 24).drop 24).drop 24).drop 24).drop 24).drop 24), List.all_append, w_t13, ← List.take_append_drop 24 (((((((((((((words1.drop 24).drop 24).drop 24).drop 24).drop 24).drop 24).drop 24).drop 24).drop 24).drop 24).drop 24).drop 24).drop 24), List.all_append, w_t14, ← List.take_append_drop 24 ((((((((((((((words1.drop 24).drop 24).drop 24).drop 24).drop 24).drop 24).drop 24).drop 24).drop 24).drop 24).drop 24).drop 24).drop 24).drop 24), List.all_append, w_t15, w_t16]
  rfl
set_option maxRecDepth 65536 in
theorem w_rest : rest_1_c.before args0 about1 = true := by decide +kernel
set_option maxRecDepth 65536 in
theorem w_case : (Jvm.Cond.and given_1 narrow_1).before args0 about1 = true := by decide +kernel
set_option maxRecDepth 65536 in
theorem w_consts : constsHeld consts_1 about1 := Jvm.Lit.constsHeldB_iff.mp (by decide +kernel)
theorem w_applies : (headSpec (Jvm.Cond.code x code maxLocals ret :: tables_1) room_1).applies x e0.platform about1 = true :=
  (Spec.applies_iff w_frames).mpr ⟨w_running, w_runnable, w_alone, w_named, w_hears, w_ripe, w_room, w_tables⟩
theorem atStart : AtStart classFile x code maxLocals ret World_1 tables_1 room_1 Calls_1 rest_1 Pre_1 launch0 p0 e0 about1 theMethod args0 below0 :=
  ⟨lists_1, trivial, launch0.admits_env _ _ _, launch0.least_env, fairChoices_fair.cas, fairChoices_fair.clock, w_frames, w_args, w_heap, w_applies, ⟨⟨41, k41, 4, by decide +kernel, rfl, rfl, _, rfl, rfl⟩, ⟨w_consts, trivial⟩⟩, w_rest, w_case⟩
end start1
theorem witness_1 : WitnessClaimed_1 := ⟨start1.p0, start1.e0, start1.about1, start1.theMethod, start1.args0, start1.below0, start1.atStart⟩
end Jvm.Pilot.@@N@@
