import JvmDerived
import JvmDerived.Pilot.@@N@@Statement
import JvmDerived.Pilot.@@N@@Code
set_option linter.unusedVariables false
set_option linter.unusedSimpArgs false
@@BLOCK:TracedD.lean.txt@@
/- laws to paste: Road.backV, Road.codOf (cut by pick.py; bodies as the Statement names them) -/
namespace Jvm.Pilot.@@N@@
namespace StrChars
open Jvm Sem ClassFile Op Lib Jvm.Stand Jvm.Free.XT Jvm.Free.ALB Jvm.Free.JM Jvm.Free
open Jvm.Lib.Cold (StaticIs)
/-- a char array whose places are chars -/
def Ch (a : Addr) (A : Cell) (U : State) : Prop := Arr .char a A U ∧ Typed .char A
theorem Ch.mv {a : Addr} {A : Cell} {U U' : State} (h : Ch a A U) (hal : U.vm.Alike U'.vm) (hh : U'.heap = U.heap) : Ch a A U' := ⟨h.1.mv hal hh, h.2⟩
theorem Ch.keep {a : Addr} {A : Cell} {U U' : State} (h : Ch a A U) (hal : U.vm.Alike U'.vm) (hk : U'.heap[a]? = some A) : Ch a A U' := ⟨h.1.keep hal hk, h.2⟩
/-- what place i of a char[]'s cell holds -/
def cv (A : Cell) (i : Nat) : Int32 := match A.slots[i]? with | some (.int x) => x | _ => 0
theorem Ch.get {a : Addr} {A : Cell} {U : State} (h : Ch a A U) {i : Nat} (hi : i < A.slots.size) : A.slots[i]? = some (.int (cv A i)) := by
  have e := Array.getElem?_eq_getElem hi
  have f := h.2 i _ e
  unfold cv; rw [e]
  generalize A.slots[i] = v at f
  cases v <;> simp [fits] at f ⊢
/-- the byte that i2b leaves of a char -/
def lo8 (x : Int32) : Int32 := x.toInt8.toInt32
theorem fits_lo8 (y : Int32) : fits .byte (.int (lo8 y)) = true := by
  have h1 := y.toInt8.le_toInt
  have h2 := y.toInt8.toInt_lt
  simp only [lo8, fits, Bool.and_eq_true, decide_eq_true_eq, Int32.le_iff_toInt_le, Int8.toInt_toInt32, show (-128 : Int32).toInt = -128 from by decide, show (127 : Int32).toInt = 127 from by decide]
  omega
/-- A' is A but that each place j of lo .. hi - 1 holds f j -/
def Laid (A A' : Cell) (lo hi : Nat) (f : Nat → Value) : Prop := A'.cls = A.cls ∧ A'.vm = A.vm ∧ A'.slots.size = A.slots.size ∧ ∀ i, A'.slots[i]? = if lo ≤ i ∧ i < hi then some (f i) else A.slots[i]?
theorem Laid.zero (A : Cell) (lo : Nat) (f : Nat → Value) : Laid A A lo (lo + 0) f := ⟨rfl, rfl, rfl, fun i => by rw [if_neg (by omega)]⟩
theorem Laid.step {A Ak : Cell} {lo k : Nat} {f : Nat → Value} {v : Value} (h : Laid A Ak lo k f) (hlo : lo ≤ k) (hk : k < Ak.slots.size) (hv : v = f k) : Laid A (Ak.setSlot k v) lo (k + 1) f := by
  refine ⟨h.1, h.2.1, by simpa [Cell.setSlot] using h.2.2.1, fun i => ?_⟩
  by_cases e : k = i
  · subst e; rw [Cell.slots_setSlot_self v hk, if_pos (by omega), hv]
  · rw [Cell.slots_setSlot_ne v e, h.2.2.2 i]
    by_cases q : lo ≤ i ∧ i < k
    · rw [if_pos q, if_pos (by omega)]
    · rw [if_neg q, if_neg (by omega)]
def U16 : String := "java/lang/StringUTF16"
namespace Cmp5
def yN : MethodName := ⟨"java/lang/StringUTF16", "compress", "([CI[BII)I"⟩
abbrev yB : ByteArray := jdk_52_method_21_code
theorem d0 : decode yB 0 = .ok (.iconst 0, 1) := by decide +kernel
theorem d1 : decode yB 1 = .ok (.istore 5, 2) := by decide +kernel
theorem d3 : decode yB 3 = .ok (.iload 5, 2) := by decide +kernel
theorem d5 : decode yB 5 = .ok (.iload 4, 2) := by decide +kernel
theorem d7 : decode yB 7 = .ok (.if_icmp (.ge) 37, 3) := by decide +kernel
theorem d10 : decode yB 10 = .ok (.aload_n 0, 1) := by decide +kernel
theorem d11 : decode yB 11 = .ok (.iload_n 1, 1) := by decide +kernel
theorem d12 : decode yB 12 = .ok (.caload, 1) := by decide +kernel
theorem d13 : decode yB 13 = .ok (.istore 6, 2) := by decide +kernel
theorem d15 : decode yB 15 = .ok (.iload 6, 2) := by decide +kernel
theorem d17 : decode yB 17 = .ok (.sipush 255, 3) := by decide +kernel
theorem d20 : decode yB 20 = .ok (.if_icmp (.le) 6, 3) := by decide +kernel
theorem d26 : decode yB 26 = .ok (.aload_n 2, 1) := by decide +kernel
theorem d27 : decode yB 27 = .ok (.iload_n 3, 1) := by decide +kernel
theorem d28 : decode yB 28 = .ok (.iload 6, 2) := by decide +kernel
theorem d30 : decode yB 30 = .ok (.i2b, 1) := by decide +kernel
theorem d31 : decode yB 31 = .ok (.bastore, 1) := by decide +kernel
theorem d32 : decode yB 32 = .ok (.iinc 1 1, 3) := by decide +kernel
theorem d35 : decode yB 35 = .ok (.iinc 3 1, 3) := by decide +kernel
theorem d38 : decode yB 38 = .ok (.iinc 5 1, 3) := by decide +kernel
theorem d41 : decode yB 41 = .ok (.goto (-38), 3) := by decide +kernel
theorem d44 : decode yB 44 = .ok (.iload 4, 2) := by decide +kernel
theorem d46 : decode yB 46 = .ok (.ireturn, 1) := by decide +kernel
def site : List Cond := []
def tab : Cond := tabOf yN yB 7 (some .int) site
def P (b : Addr) (A : Cell) (d : Addr) (B : Cell) (o q len : Nat) (args : Array Value) (s : State) : Prop := args = #[.ref b, .int (Int32.ofNat o), .ref d, .int (Int32.ofNat q), .int (Int32.ofNat len)] ∧ Ch b A s ∧ Arr .byte d B s ∧ b ≠ d ∧ o + len ≤ A.slots.size ∧ q + len ≤ B.slots.size ∧ ∀ i, i < len → ¬ 255 < cv A (o + i)
def E (b : Addr) (A : Cell) (d : Addr) (B : Cell) (o q len : Nat) (r : Option Value) (s u : State) : Prop := r = some (.int (Int32.ofNat len)) ∧ ∃ B', Put d B' s u ∧ Laid B B' q (q + len) (fun j => Value.int (lo8 (cv A (o + (j - q)))))
/-- no char of the range above 255: len; the places written hold each char's low byte -/
theorem law (l : Launch) (b : Addr) (A : Cell) (d : Addr) (B : Cell) (o q len : Nat) : Law l yN 5 5 0 0 yB 7 (some .int) site (P b A d B o q len) (E b A d B o q len) (copyLocs d q len) 0 0 := by
  refine Law.of_walk (plainFor_of_name (by decide +kernel)) (by decide +kernel) (by decide +kernel) (by decide) (fun _ _ h => by rw [h.1]; rfl) (fun _ U U' hal hh h => ⟨h.1, h.2.1.mv hal hh, h.2.2.1.mv hal hh, h.2.2.2⟩) (fun r U U' V V' h1 hal h2 h => ⟨h.1, h.2.elim fun B' q => ⟨B', q.1.mv h1 h2, q.2⟩⟩) ?_
  intro p e s m args below meth c s₁ X0 hexec hbytes hml hret hlk hnm hown hh0 W hP
  obtain ⟨rfl, hA, hB, hne, l1, l2, hp⟩ := hP
  have c1 : Steps p.tables e below (s₁.setTop (entryFrame m #[.ref b, .int (Int32.ofNat o), .ref d, .int (Int32.ofNat q), .int (Int32.ofNat len)] 7)) (s₁.setTop (mkF m 0 #[.val (.ref b), .val (.int (Int32.ofNat o)), .val (.ref d), .val (.int (Int32.ofNat q)), .val (.int (Int32.ofNat len)), .unset, .unset] [])) := entry rfl
  have hA0 := hA.1.mv X0.warmed.alike hh0
  have hB0 := hB.mv X0.warmed.alike hh0
  have a31 := hA.1.2.2.2
  have c2 : Steps p.tables e below (s₁.setTop (entryFrame m #[.ref b, .int (Int32.ofNat o), .ref d, .int (Int32.ofNat q), .int (Int32.ofNat len)] 7)) (s₁.setTop (mkF m 3 #[.val (.ref b), .val (.int (Int32.ofNat o)), .val (.ref d), .val (.int (Int32.ofNat q)), .val (.int (Int32.ofNat len)), .val (.int 0), .unset] [])) := c1.trans (by
    refine iconstV X0.here hexec rfl 0 (hb hbytes d0) (by decide) ?_
    refine XS.istore X0.here hexec rfl (hb hbytes d1) rfl rfl ?_
    exact Steps.refl _)
  have loop : ∀ (r i : Nat), i + r = len → ∀ (z : Slot), (z = .unset ∨ ∃ w, z = .val w ∧ w.category = 1) → ∀ (Tl : State) (Bk : Cell), Stand p l e { frames := 0, locals := 0, cells := 0, slots := 0 } s m #[.ref b, .int (Int32.ofNat o), .ref d, .int (Int32.ofNat q), .int (Int32.ofNat len)] below meth c Tl ([] ++ copyLocs d q i) 0 0 → Put d Bk s₁ Tl → Laid B Bk q (q + i) (fun j => Value.int (lo8 (cv A (o + (j - q))))) →
      Steps p.tables e below (s₁.setTop (entryFrame m #[.ref b, .int (Int32.ofNat o), .ref d, .int (Int32.ofNat q), .int (Int32.ofNat len)] 7)) (Tl.setTop (mkF m 3 #[.val (.ref b), .val (.int (Int32.ofNat (o + i))), .val (.ref d), .val (.int (Int32.ofNat (q + i))), .val (.int (Int32.ofNat len)), .val (.int (Int32.ofNat i)), z] [])) → ∃ (T' : State) (B' : Cell) (z' : Slot), Stand p l e { frames := 0, locals := 0, cells := 0, slots := 0 } s m #[.ref b, .int (Int32.ofNat o), .ref d, .int (Int32.ofNat q), .int (Int32.ofNat len)] below meth c T' ([] ++ copyLocs d q len) 0 0 ∧ Put d B' s₁ T' ∧ Laid B B' q (q + len) (fun j => Value.int (lo8 (cv A (o + (j - q))))) ∧
      Steps p.tables e below (s₁.setTop (entryFrame m #[.ref b, .int (Int32.ofNat o), .ref d, .int (Int32.ofNat q), .int (Int32.ofNat len)] 7)) (T'.setTop (mkF m 3 #[.val (.ref b), .val (.int (Int32.ofNat (o + len))), .val (.ref d), .val (.int (Int32.ofNat (q + len))), .val (.int (Int32.ofNat len)), .val (.int (Int32.ofNat len)), z'] [])) := by
    intro r
    induction r with
    | zero =>
      intro i hi z hz Tl Bk Xl pl fl cl
      have hil : i = len := by omega
      rw [hil] at Xl fl cl
      exact ⟨Tl, Bk, z, Xl, pl, fl, cl⟩
    | succ r ih =>
      intro i hi z hz Tl Bk Xl pl fl cl
      have all := X0.warmed.alike.symm.trans Xl.warmed.alike
      have hAl := hA0.keep all (pl.other hne hA0.1)
      have hBk := hB0.like all pl.1 fl.1 fl.2.1 fl.2.2.1
      have hlt : q + i < Bk.slots.size := by rw [fl.2.2.1]; omega
      have c3 : Steps p.tables e below (s₁.setTop (entryFrame m #[.ref b, .int (Int32.ofNat o), .ref d, .int (Int32.ofNat q), .int (Int32.ofNat len)] 7)) (Tl.setTop (mkF m 12 #[.val (.ref b), .val (.int (Int32.ofNat (o + i))), .val (.ref d), .val (.int (Int32.ofNat (q + i))), .val (.int (Int32.ofNat len)), .val (.int (Int32.ofNat i)), z] [.int (Int32.ofNat (o + i)), .ref b])) := cl.trans (by
        refine XS.iload Xl.here hexec rfl (hb hbytes d3) rfl ?_
        refine XS.iload Xl.here hexec rfl (hb hbytes d5) rfl ?_
        refine XS.icmpNo Xl.here hexec rfl (hb hbytes d7) rfl (ii_ge_f (lt32 (by omega) (by omega))) ?_
        refine XS.aloadN Xl.here hexec rfl (hb hbytes d10) rfl rfl ?_
        refine XS.iloadN Xl.here hexec rfl (hb hbytes d11) rfl ?_
        exact Steps.refl _)
      have c4 : Steps p.tables e below (s₁.setTop (entryFrame m #[.ref b, .int (Int32.ofNat o), .ref d, .int (Int32.ofNat q), .int (Int32.ofNat len)] 7)) (Tl.setTop (mkF m 13 #[.val (.ref b), .val (.int (Int32.ofNat (o + i))), .val (.ref d), .val (.int (Int32.ofNat (q + i))), .val (.int (Int32.ofNat len)), .val (.int (Int32.ofNat i)), z] [.int (cv A (o + i))])) := c3.trans (by
        refine Xl.aget hexec hAl rfl (hA.get (i := o + i) (by omega)) rfl rfl (hb hbytes d12) ?_
        exact Steps.refl _)
      have c5 : Steps p.tables e below (s₁.setTop (entryFrame m #[.ref b, .int (Int32.ofNat o), .ref d, .int (Int32.ofNat q), .int (Int32.ofNat len)] 7)) (Tl.setTop (mkF m 15 #[.val (.ref b), .val (.int (Int32.ofNat (o + i))), .val (.ref d), .val (.int (Int32.ofNat (q + i))), .val (.int (Int32.ofNat len)), .val (.int (Int32.ofNat i)), .val (.int (cv A (o + i)))] [])) := c4.trans (by
        refine XS.istoreS Xl.here hexec rfl (hb hbytes d13) rfl rfl hz ?_
        exact Steps.refl _)
      have c6 : Steps p.tables e below (s₁.setTop (entryFrame m #[.ref b, .int (Int32.ofNat o), .ref d, .int (Int32.ofNat q), .int (Int32.ofNat len)] 7)) (Tl.setTop (mkF m 31 #[.val (.ref b), .val (.int (Int32.ofNat (o + i))), .val (.ref d), .val (.int (Int32.ofNat (q + i))), .val (.int (Int32.ofNat len)), .val (.int (Int32.ofNat i)), .val (.int (cv A (o + i)))] [.int (lo8 (cv A (o + i))), .int (Int32.ofNat (q + i)), .ref d])) := c5.trans (by
        refine XS.iload Xl.here hexec rfl (hb hbytes d15) rfl ?_
        refine sipushV Xl.here hexec rfl 255 (hb hbytes d17) (by decide) ?_
        refine XS.icmpYes Xl.here hexec rfl (pc0 := 20) rfl (hb hbytes d20) rfl (ii_le_t (hp i (by omega))) (by decide) rfl ?_
        refine XS.aloadN Xl.here hexec rfl (hb hbytes d26) rfl rfl ?_
        refine XS.iloadN Xl.here hexec rfl (hb hbytes d27) rfl ?_
        refine XS.iload Xl.here hexec rfl (hb hbytes d28) rfl ?_
        refine i2b Xl.here hexec rfl (hb hbytes d30) rfl ?_
        exact Steps.refl _)
      obtain ⟨T7, X7, p7, st7⟩ := Xl.aput hexec hBk rfl hlt rfl (fits_lo8 (cv A (o + i))) (g := (mkF m 31 #[.val (.ref b), .val (.int (Int32.ofNat (o + i))), .val (.ref d), .val (.int (Int32.ofNat (q + i))), .val (.int (Int32.ofNat len)), .val (.int (Int32.ofNat i)), .val (.int (cv A (o + i)))] [.int (lo8 (cv A (o + i))), .int (Int32.ofNat (q + i)), .ref d])) rfl (rest := []) rfl (hb hbytes d31)
      have c8 : Steps p.tables e below (s₁.setTop (entryFrame m #[.ref b, .int (Int32.ofNat o), .ref d, .int (Int32.ofNat q), .int (Int32.ofNat len)] 7)) (T7.setTop (mkF m 32 #[.val (.ref b), .val (.int (Int32.ofNat (o + i))), .val (.ref d), .val (.int (Int32.ofNat (q + i))), .val (.int (Int32.ofNat len)), .val (.int (Int32.ofNat i)), .val (.int (cv A (o + i)))] [])) := c6.trans (st7 _ (Steps.refl _))
      have c9 : Steps p.tables e below (s₁.setTop (entryFrame m #[.ref b, .int (Int32.ofNat o), .ref d, .int (Int32.ofNat q), .int (Int32.ofNat len)] 7)) (T7.setTop (mkF m 3 #[.val (.ref b), .val (.int (Int32.ofNat (o + i) + 1)), .val (.ref d), .val (.int (Int32.ofNat (q + i) + 1)), .val (.int (Int32.ofNat len)), .val (.int (Int32.ofNat i + 1)), .val (.int (cv A (o + i)))] [])) := c8.trans (by
        refine iincV X7.here hexec rfl 1 (hb hbytes d32) (by decide) rfl rfl ?_
        refine iincV X7.here hexec rfl 1 (hb hbytes d35) (by decide) rfl rfl ?_
        refine iincV X7.here hexec rfl 1 (hb hbytes d38) (by decide) rfl rfl ?_
        refine XS.goto X7.here hexec rfl (pc0 := 41) rfl (hb hbytes d41) (by decide) rfl ?_
        exact Steps.refl _)
      have c10 : Steps p.tables e below (s₁.setTop (entryFrame m #[.ref b, .int (Int32.ofNat o), .ref d, .int (Int32.ofNat q), .int (Int32.ofNat len)] 7)) (T7.setTop (mkF m 3 #[.val (.ref b), .val (.int (Int32.ofNat (o + (i + 1)))), .val (.ref d), .val (.int (Int32.ofNat (q + (i + 1)))), .val (.int (Int32.ofNat len)), .val (.int (Int32.ofNat (i + 1))), .val (.int (cv A (o + i)))] [])) := by
        have := c9
        rw [succ32, succ32, succ32] at this
        exact this
      exact ih (i + 1) (by omega) _ (Or.inr ⟨_, rfl, rfl⟩) T7 _ (by rw [copyLocs_step, ← List.append_assoc]; exact X7) (pl.trans p7) (fl.step (by omega) hlt (by simp)) c10
  obtain ⟨T9, B9, z9, X9, p9, f9, g9⟩ := loop len 0 (by omega) .unset (Or.inl rfl) s₁ B (by simpa [copyLocs] using X0) ⟨hB0.1, fun _ _ => rfl, rfl⟩ (Laid.zero _ _ _) c2
  have c11 : Steps p.tables e below (s₁.setTop (entryFrame m #[.ref b, .int (Int32.ofNat o), .ref d, .int (Int32.ofNat q), .int (Int32.ofNat len)] 7)) (T9.setTop (mkF m 46 #[.val (.ref b), .val (.int (Int32.ofNat (o + len))), .val (.ref d), .val (.int (Int32.ofNat (q + len))), .val (.int (Int32.ofNat len)), .val (.int (Int32.ofNat len)), z9] [.int (Int32.ofNat len)])) := g9.trans (by
    refine XS.iload X9.here hexec rfl (hb hbytes d3) rfl ?_
    refine XS.iload X9.here hexec rfl (hb hbytes d5) rfl ?_
    refine XS.icmpYes X9.here hexec rfl (pc0 := 7) rfl (hb hbytes d7) rfl (ii_ge_t (nlt32 (by omega) (Nat.le_refl _))) (by decide) rfl ?_
    refine XS.iload X9.here hexec rfl (hb hbytes d44) rfl ?_
    exact Steps.refl _)
  exact ⟨T9, some (.int (Int32.ofNat len)), _, _, _, X9, by simp, rfl, rfl, (fun h => by cases h), ⟨rfl, B9, p9.from hh0, f9⟩, fun fs hl => c11.trans (X9.ireturnOut hexec hret rfl (Or.inl rfl) (hb hbytes d46) hl)⟩
end Cmp5
namespace Cmp3
def yN : MethodName := ⟨"java/lang/StringUTF16", "compress", "([CII)[B"⟩
abbrev yB : ByteArray := jdk_52_method_16_code
theorem d0 : decode yB 0 = .ok (.iload_n 2, 1) := by decide +kernel
theorem d1 : decode yB 1 = .ok (.newarray .byte, 2) := by decide +kernel
theorem d3 : decode yB 3 = .ok (.astore_n 3, 1) := by decide +kernel
theorem d4 : decode yB 4 = .ok (.aload_n 0, 1) := by decide +kernel
theorem d5 : decode yB 5 = .ok (.iload_n 1, 1) := by decide +kernel
theorem d6 : decode yB 6 = .ok (.aload_n 3, 1) := by decide +kernel
theorem d7 : decode yB 7 = .ok (.iconst 0, 1) := by decide +kernel
theorem d8 : decode yB 8 = .ok (.iload_n 2, 1) := by decide +kernel
theorem d9 : decode yB 9 = .ok (.invokestatic 115, 3) := by decide +kernel
theorem d12 : decode yB 12 = .ok (.istore 4, 2) := by decide +kernel
theorem d14 : decode yB 14 = .ok (.iload 4, 2) := by decide +kernel
theorem d16 : decode yB 16 = .ok (.iload_n 2, 1) := by decide +kernel
theorem d17 : decode yB 17 = .ok (.if_icmp (.eq) 40, 3) := by decide +kernel
theorem d57 : decode yB 57 = .ok (.aload_n 3, 1) := by decide +kernel
theorem d58 : decode yB 58 = .ok (.areturn, 1) := by decide +kernel
def site : List Cond := [.arrayClass .byte, Cmp5.tab] ++ staticW U16 115 Cmp5.yN
def tab : Cond := tabOf yN yB 6 (some (.array .byte)) site
def P (b : Addr) (A : Cell) (o len : Nat) (args : Array Value) (s : State) : Prop := args = #[.ref b, .int (Int32.ofNat o), .int (Int32.ofNat len)] ∧ Ch b A s ∧ o + len ≤ A.slots.size ∧ len ≤ 536870912 ∧ ∀ i, i < len → ¬ 255 < cv A (o + i)
def E (b : Addr) (A : Cell) (o len : Nat) (r : Option Value) (s u : State) : Prop := NewArr .byte "[B" len (fun j => .int (lo8 (cv A (o + j)))) r s u ∧ u.heap.size = s.heap.size + 1
/-- no char of the range above 255: a new byte[] of their low bytes -/
theorem law (l : Launch) (b : Addr) (A : Cell) (o len : Nat) : Law l yN 3 3 1 18 yB 6 (some (.array .byte)) site (P b A o len) (E b A o len) [] 1 len := by
  refine Law.of_walk (plainFor_of_name (by decide +kernel)) (by decide +kernel) (by decide +kernel) (by decide) (fun _ _ h => by rw [h.1]; rfl) (fun _ U U' hal hh h => ⟨h.1, h.2.1.mv hal hh, h.2.2⟩) (fun r U U' V V' h1 hal h2 h => ⟨NewArr.mv r U U' V V' h1 hal h2 h.1, by rw [h1, h2]; exact h.2⟩) ?_
  intro p e s m args below meth c s₁ X0 hexec hbytes hml hret hlk hnm hown hh0 W hP
  obtain ⟨rfl, hA, l1, l2, hp⟩ := hP
  have a31 := hA.1.2.2.2
  have c1 : Steps p.tables e below (s₁.setTop (entryFrame m #[.ref b, .int (Int32.ofNat o), .int (Int32.ofNat len)] 6)) (s₁.setTop (mkF m 0 #[.val (.ref b), .val (.int (Int32.ofNat o)), .val (.int (Int32.ofNat len)), .unset, .unset, .unset] [])) := entry rfl
  have c2 : Steps p.tables e below (s₁.setTop (entryFrame m #[.ref b, .int (Int32.ofNat o), .int (Int32.ofNat len)] 6)) (s₁.setTop (mkF m 1 #[.val (.ref b), .val (.int (Int32.ofNat o)), .val (.int (Int32.ofNat len)), .unset, .unset, .unset] [.int (Int32.ofNat len)])) := c1.trans (by
    refine XS.iloadN X0.here hexec rfl (hb hbytes d0) rfl ?_
    exact Steps.refl _)
  obtain ⟨T3, B3, X3, ba3, bs3, bv3, bh3, bf3, st3⟩ := X0.anew hexec (atype := .byte) (wk W (.arrayClass .byte)) rfl (by show len * 1 ≤ _; omega) (by omega) (g := (mkF m 1 #[.val (.ref b), .val (.int (Int32.ofNat o)), .val (.int (Int32.ofNat len)), .unset, .unset, .unset] [.int (Int32.ofNat len)])) rfl (hb hbytes d1) (rest := []) rfl (Nat.le_refl _) (by show 0 + len ≤ len; omega)
  rw [hh0] at ba3 st3
  have kp3 : XT.Kept s T3 := (XT.Kept.of_eq hh0).push bh3
  have hA3 := hA.keep X3.warmed.alike (kp3 _ _ hA.1.1)
  have hne : b ≠ s.heap.size := hA.1.ne
  have c4 : Steps p.tables e below (s₁.setTop (entryFrame m #[.ref b, .int (Int32.ofNat o), .int (Int32.ofNat len)] 6)) (T3.setTop (mkF m 3 #[.val (.ref b), .val (.int (Int32.ofNat o)), .val (.int (Int32.ofNat len)), .unset, .unset, .unset] [.ref s.heap.size])) := c2.trans (st3 _ (Steps.refl _))
  have c5 : Steps p.tables e below (s₁.setTop (entryFrame m #[.ref b, .int (Int32.ofNat o), .int (Int32.ofNat len)] 6)) (T3.setTop (mkF m 9 #[.val (.ref b), .val (.int (Int32.ofNat o)), .val (.int (Int32.ofNat len)), .val (.ref s.heap.size), .unset, .unset] [.int (Int32.ofNat len), .int 0, .ref s.heap.size, .int (Int32.ofNat o), .ref b])) := c4.trans (by
    refine XS.astoreN X3.here hexec rfl (hb hbytes d3) rfl rfl rfl ?_
    refine XS.aloadN X3.here hexec rfl (hb hbytes d4) rfl rfl ?_
    refine XS.iloadN X3.here hexec rfl (hb hbytes d5) rfl ?_
    refine XS.aloadN X3.here hexec rfl (hb hbytes d6) rfl rfl ?_
    refine iconstV X3.here hexec rfl 0 (hb hbytes d7) (by decide) ?_
    refine XS.iloadN X3.here hexec rfl (hb hbytes d8) rfl ?_
    exact Steps.refl _)
  obtain ⟨v6, T6, X6, E6, g6⟩ := X3.callS hexec (Cmp5.law l b A s.heap.size B3 o 0 len) hown (wks W (staticW U16 115 Cmp5.yN)) (wk W Cmp5.tab) (W := 0) (Nat.le_of_ble_eq_true rfl) (Nat.le_of_ble_eq_true rfl) (Nat.le_refl _) (by show 0 + len + 0 ≤ len; omega) (g := (mkF m 9 #[.val (.ref b), .val (.int (Int32.ofNat o)), .val (.int (Int32.ofNat len)), .val (.ref s.heap.size), .unset, .unset] [.int (Int32.ofNat len), .int (Int32.ofNat 0), .ref s.heap.size, .int (Int32.ofNat o), .ref b])) rfl (by rw [hml]; rfl) c5 (argsL := [.ref b, .int (Int32.ofNat o), .ref s.heap.size, .int (Int32.ofNat 0), .int (Int32.ofNat len)]) (rest := []) rfl rfl (by show 2 * 0 + 0 ≤ _; decide) (hb hbytes d9) (⟨rfl, hA3, ba3, hne, l1, by rw [bs3]; simp, hp⟩)
  obtain ⟨rfl, B6, p6, f6⟩ := E6
  have c7 : Steps p.tables e below (s₁.setTop (entryFrame m #[.ref b, .int (Int32.ofNat o), .int (Int32.ofNat len)] 6)) (T6.setTop (mkF m 12 #[.val (.ref b), .val (.int (Int32.ofNat o)), .val (.int (Int32.ofNat len)), .val (.ref s.heap.size), .unset, .unset] [.int (Int32.ofNat len)])) := g6
  have c8 : Steps p.tables e below (s₁.setTop (entryFrame m #[.ref b, .int (Int32.ofNat o), .int (Int32.ofNat len)] 6)) (T6.setTop (mkF m 58 #[.val (.ref b), .val (.int (Int32.ofNat o)), .val (.int (Int32.ofNat len)), .val (.ref s.heap.size), .val (.int (Int32.ofNat len)), .unset] [.ref s.heap.size])) := c7.trans (by
    refine XS.istore X6.here hexec rfl (hb hbytes d12) rfl rfl ?_
    refine XS.iload X6.here hexec rfl (hb hbytes d14) rfl ?_
    refine XS.iloadN X6.here hexec rfl (hb hbytes d16) rfl ?_
    refine XS.icmpYes X6.here hexec rfl (pc0 := 17) rfl (hb hbytes d17) rfl (ii_eq_t rfl) (by decide) rfl ?_
    refine XS.aloadN X6.here hexec rfl (hb hbytes d57) rfl rfl ?_
    exact Steps.refl _)
  have X8 := X6.wide (L' := []) (cells' := 1) (slots' := len) (fun x hx hlt => by
    simp only [List.nil_append, copyLocs, List.mem_map, List.mem_range] at hx
    obtain ⟨i, -, rfl⟩ := hx
    exact absurd hlt (Nat.lt_irrefl _)) (Nat.le_refl _) (by omega)
  exact ⟨T6, some (.ref s.heap.size), _, _, _, X8, rfl, rfl, rfl, (fun h => by cases h), ⟨⟨rfl, B6, ba3.like (X3.warmed.alike.symm.trans X6.warmed.alike) p6.1 f6.1 f6.2.1 f6.2.2.1, f6.2.1.trans bv3, by rw [X6.warmed.alike.findClass, f6.1]; exact bf3, by rw [f6.2.2.1, bs3]; simp, fun j hj => by rw [f6.2.2.2 j, if_pos (by omega)]; rfl, kp3.put p6 (Nat.le_refl _)⟩, by rw [p6.2.2, bh3, hh0]; simp⟩, fun fs hl => c8.trans (X8.areturnOut hexec rfl hret rfl (hb hbytes d58) hl)⟩
end Cmp3
namespace CodL
def yN : MethodName := ⟨"java/lang/StringUTF16", "coderFromArrayLen", "([BI)B"⟩
abbrev yB : ByteArray := jdk_52_method_15_code
theorem d0 : decode yB 0 = .ok (.iload_n 1, 1) := by decide +kernel
theorem d1 : decode yB 1 = .ok (.aload_n 0, 1) := by decide +kernel
theorem d2 : decode yB 2 = .ok (.arraylength, 1) := by decide +kernel
theorem d3 : decode yB 3 = .ok (.isub, 1) := by decide +kernel
theorem d4 : decode yB 4 = .ok (.bipush 31, 2) := by decide +kernel
theorem d6 : decode yB 6 = .ok (.iushr, 1) := by decide +kernel
theorem d7 : decode yB 7 = .ok (.i2b, 1) := by decide +kernel
theorem d8 : decode yB 8 = .ok (.ireturn, 1) := by decide +kernel
def site : List Cond := []
def tab : Cond := tabOf yN yB 2 (some .byte) site
def P (d : Addr) (B : Cell) (args : Array Value) (s : State) : Prop := args = #[.ref d, .int (Int32.ofNat B.slots.size)] ∧ Arr .byte d B s
def E (r : Option Value) (s u : State) : Prop := XT.PureE (some (.int 0)) r s u
/-- an array as long as the number of chars: LATIN1 -/
theorem law (l : Launch) (d : Addr) (B : Cell) : Law l yN 2 2 0 0 yB 2 (some .byte) site (P d B) E [] 0 0 := by
  refine Law.of_walk (plainFor_of_name (by decide +kernel)) (by decide +kernel) (by decide +kernel) (by decide) (fun _ _ h => by rw [h.1]; rfl) (fun _ U U' hal hh h => ⟨h.1, h.2.mv hal hh⟩) (fun r U U' V V' h1 hal h2 h => XT.PureE.mv r U U' V V' h1 hal h2 h) ?_
  intro p e s m args below meth c s₁ X0 hexec hbytes hml hret hlk hnm hown hh0 W hP
  obtain ⟨rfl, hB⟩ := hP
  have hB0 := hB.mv X0.warmed.alike hh0
  have c1 : Steps p.tables e below (s₁.setTop (entryFrame m #[.ref d, .int (Int32.ofNat B.slots.size)] 2)) (s₁.setTop (mkF m 0 #[.val (.ref d), .val (.int (Int32.ofNat B.slots.size))] [])) := entry rfl
  have c2 : Steps p.tables e below (s₁.setTop (entryFrame m #[.ref d, .int (Int32.ofNat B.slots.size)] 2)) (s₁.setTop (mkF m 2 #[.val (.ref d), .val (.int (Int32.ofNat B.slots.size))] [.ref d, .int (Int32.ofNat B.slots.size)])) := c1.trans (by
    refine XS.iloadN X0.here hexec rfl (hb hbytes d0) rfl ?_
    refine XS.aloadN X0.here hexec rfl (hb hbytes d1) rfl rfl ?_
    exact Steps.refl _)
  have c3 : Steps p.tables e below (s₁.setTop (entryFrame m #[.ref d, .int (Int32.ofNat B.slots.size)] 2)) (s₁.setTop (mkF m 8 #[.val (.ref d), .val (.int (Int32.ofNat B.slots.size))] [.int (lo8 (ushr (Int32.ofNat B.slots.size - Int32.ofNat B.slots.size) 31))])) := c2.trans (by
    refine X0.alen hexec hB0 rfl rfl (hb hbytes d2) ?_
    refine XS.isub X0.here hexec rfl (hb hbytes d3) rfl ?_
    refine bipushV X0.here hexec rfl 31 (hb hbytes d4) (by decide) ?_
    refine iushr X0.here hexec rfl (hb hbytes d6) rfl ?_
    refine i2b X0.here hexec rfl (hb hbytes d7) rfl ?_
    exact Steps.refl _)
  have e0 : lo8 (ushr (Int32.ofNat B.slots.size - Int32.ofNat B.slots.size) 31) = 0 := by rw [Int32.sub_self]; decide
  rw [e0] at c3
  exact ⟨s₁, some (.int 0), _, _, _, X0, rfl, rfl, rfl, (fun h => by cases h), ⟨rfl, hh0⟩, fun fs hl => c3.trans (X0.ireturnOut hexec hret rfl (Or.inr (Or.inr (Or.inl rfl))) (hb hbytes d8) hl)⟩
end CodL
/-- the String at a is Latin-1 over a new byte[] (the heap's one new cell): the low bytes of the len chars of A from o on; every cell but a is kept -/
def Got (a : Addr) (D : Cell) (fV fC : Field) (A : Cell) (o len : Nat) (r : Option Value) (s u : State) : Prop := r = none ∧ ∃ D' V : Cell, Blank "java/lang/String" a D' u ∧ Same D D' [fV.slot, fC.slot] ∧ D'.slots[fV.slot]? = some (.ref s.heap.size) ∧ D'.slots[fC.slot]? = some (.int 0) ∧ Arr .byte s.heap.size V u ∧ V.vm = .none ∧ u.vm.findClass "[B" = some V.cls ∧ V.slots.size = len ∧ (∀ j, j < len → V.slots[j]? = some (.int (lo8 (cv A (o + j))))) ∧ (∀ (y : Addr) (c : Cell), y ≠ a → s.heap[y]? = some c → u.heap[y]? = some c) ∧ u.heap.size = s.heap.size + 1
theorem Got.mv {a : Addr} {D A : Cell} {fV fC : Field} {o len : Nat} : ∀ r (U U' V V' : State), U'.heap = U.heap → V.vm.Alike V'.vm → V'.heap = V.heap → Got a D fV fC A o len r U V → Got a D fV fC A o len r U' V' :=
  fun r U U' V V' h1 hal h2 ⟨e0, D', X, a1, a2, a3, a4, a5, a6, a7, a8, a9, a10, a11⟩ => ⟨e0, D', X, a1.mv hal h2, a2, by rw [h1]; exact a3, a4, by rw [h1]; exact a5.mv hal h2, a6, by rw [hal.findClass]; exact a7, a8, a9, by rw [h1, h2]; exact a10, by rw [h1, h2]; exact a11⟩
namespace New4
def yN : MethodName := ⟨"java/lang/String", "<init>", "([CIILjava/lang/Void;)V"⟩
abbrev yB : ByteArray := jdk_42_method_149_code
theorem d0 : decode yB 0 = .ok (.aload_n 0, 1) := by decide +kernel
theorem d1 : decode yB 1 = .ok (.invokespecial 1, 3) := by decide +kernel
theorem d4 : decode yB 4 = .ok (.iload_n 3, 1) := by decide +kernel
theorem d5 : decode yB 5 = .ok (.ifCond (.ne) 22, 3) := by decide +kernel
theorem d27 : decode yB 27 = .ok (.getstatic 38, 3) := by decide +kernel
theorem d30 : decode yB 30 = .ok (.ifCond (.eq) 28, 3) := by decide +kernel
theorem d33 : decode yB 33 = .ok (.aload_n 1, 1) := by decide +kernel
theorem d34 : decode yB 34 = .ok (.iload_n 2, 1) := by decide +kernel
theorem d35 : decode yB 35 = .ok (.iload_n 3, 1) := by decide +kernel
theorem d36 : decode yB 36 = .ok (.invokestatic 177, 3) := by decide +kernel
theorem d39 : decode yB 39 = .ok (.astore 5, 2) := by decide +kernel
theorem d41 : decode yB 41 = .ok (.aload_n 0, 1) := by decide +kernel
theorem d42 : decode yB 42 = .ok (.aload 5, 2) := by decide +kernel
theorem d44 : decode yB 44 = .ok (.iload_n 3, 1) := by decide +kernel
theorem d45 : decode yB 45 = .ok (.invokestatic 47, 3) := by decide +kernel
theorem d48 : decode yB 48 = .ok (.putfield 15, 3) := by decide +kernel
theorem d51 : decode yB 51 = .ok (.aload_n 0, 1) := by decide +kernel
theorem d52 : decode yB 52 = .ok (.aload 5, 2) := by decide +kernel
theorem d54 : decode yB 54 = .ok (.putfield 9, 3) := by decide +kernel
theorem d57 : decode yB 57 = .ok (.return_, 1) := by decide +kernel
def site : List Cond := [.fieldLink "java/lang/String" 38 "java/lang/String" "COMPACT_STRINGS" "Z", Cmp3.tab, CodL.tab, .laysFinal "java/lang/String" "java/lang/String" "value" "[B", .fieldLink "java/lang/String" 9 "java/lang/String" "value" "[B", .laysFinal "java/lang/String" "java/lang/String" "coder" "B", .fieldLink "java/lang/String" 15 "java/lang/String" "coder" "B"] ++ objW "java/lang/String" 1 ++ staticW "java/lang/String" 177 Cmp3.yN ++ staticW "java/lang/String" 47 CodL.yN
def tab : Cond := tabOf yN yB 6 none site
def P (a : Addr) (D : Cell) (fV fC : Field) (b : Addr) (A : Cell) (z : Int32) (o len : Nat) (args : Array Value) (s : State) : Prop := args = #[.ref a, .ref b, .int (Int32.ofNat o), .int (Int32.ofNat len), .null] ∧ Blank "java/lang/String" a D s ∧ Found "java/lang/String" "value" "[B" fV s ∧ Found "java/lang/String" "coder" "B" fC s ∧ Ch b A s ∧ StaticIs s "java/lang/String" "COMPACT_STRINGS" "Z" (.int z) ∧ ¬ z = 0 ∧ 0 < len ∧ o + len ≤ A.slots.size ∧ len ≤ 536870912 ∧ ∀ i, i < len → ¬ 255 < cv A (o + i)
def E (a : Addr) (D : Cell) (fV fC : Field) (A : Cell) (o len : Nat) (r : Option Value) (s u : State) : Prop := Got a D fV fC A o len r s u
/-- len > 0, no char of the range above 255: a Latin-1 String of their low bytes -/
theorem law (l : Launch) (a : Addr) (D : Cell) (fV fC : Field) (b : Addr) (A : Cell) (z : Int32) (o len : Nat) : Law l yN 5 4 2 35 yB 6 none site (P a D fV fC b A z o len) (E a D fV fC A o len) [⟨a, fC.slot⟩, ⟨a, fV.slot⟩] 1 len := by
  refine Law.of_walk (plainFor_of_name (by decide +kernel)) (by decide +kernel) (by decide +kernel) (by decide) (fun _ _ h => by rw [h.1]; rfl) (fun _ U U' hal hh h => ⟨h.1, h.2.1.mv hal hh, h.2.2.1.al hal, h.2.2.2.1.al hal, h.2.2.2.2.1.mv hal hh, h.2.2.2.2.2.1.there hal hh, h.2.2.2.2.2.2⟩) (fun r U U' V V' h1 hal h2 h => Got.mv r U U' V V' h1 hal h2 h) ?_
  intro p e s m args below meth c s₁ X0 hexec hbytes hml hret hlk hnm hown hh0 W hP
  obtain ⟨rfl, hB, f1, f2, hA, s1, hz, l0, l1, l2, hp⟩ := hP
  have a31 := hA.1.2.2.2
  have c1 : Steps p.tables e below (s₁.setTop (entryFrame m #[.ref a, .ref b, .int (Int32.ofNat o), .int (Int32.ofNat len), .null] 6)) (s₁.setTop (mkF m 0 #[.val (.ref a), .val (.ref b), .val (.int (Int32.ofNat o)), .val (.int (Int32.ofNat len)), .val .null, .unset] [])) := entry rfl
  have c2 : Steps p.tables e below (s₁.setTop (entryFrame m #[.ref a, .ref b, .int (Int32.ofNat o), .int (Int32.ofNat len), .null] 6)) (s₁.setTop (mkF m 1 #[.val (.ref a), .val (.ref b), .val (.int (Int32.ofNat o)), .val (.int (Int32.ofNat len)), .val .null, .unset] [.ref a])) := c1.trans (by
    refine XS.aloadN X0.here hexec rfl (hb hbytes d0) rfl rfl ?_
    exact Steps.refl _)
  obtain ⟨T3, X3, q3, st3⟩ := X0.oinit hexec hown (wks W (objW "java/lang/String" 1)) (g := (mkF m 1 #[.val (.ref a), .val (.ref b), .val (.int (Int32.ofNat o)), .val (.int (Int32.ofNat len)), .val .null, .unset] [.ref a])) rfl (by rw [hml]; rfl) (rest := []) rfl (hb hbytes d1) (W := 0) (by show 2 * 0 + 0 ≤ _; decide) (Nat.le_of_ble_eq_true rfl) (Nat.le_of_ble_eq_true rfl)
  have hh3 := q3.trans hh0
  have c4 : Steps p.tables e below (s₁.setTop (entryFrame m #[.ref a, .ref b, .int (Int32.ofNat o), .int (Int32.ofNat len), .null] 6)) (T3.setTop (mkF m 27 #[.val (.ref a), .val (.ref b), .val (.int (Int32.ofNat o)), .val (.int (Int32.ofNat len)), .val .null, .unset] [])) := (c2.trans (st3 _ (Steps.refl _))).trans (by
    refine XS.iloadN X3.here hexec rfl (hb hbytes d4) rfl ?_
    refine XS.ifYes X3.here hexec rfl (pc0 := 5) rfl (hb hbytes d5) rfl (i0_ne_t (nz32 (by omega) l0)) (by decide) rfl ?_
    exact Steps.refl _)
  obtain ⟨T5, X5, q5, st5⟩ := X3.sget hexec hown (wk W (.fieldLink "java/lang/String" 38 "java/lang/String" "COMPACT_STRINGS" "Z")) s1 (fun _ _ h => by rw [hh3]; exact h) (g := (mkF m 27 #[.val (.ref a), .val (.ref b), .val (.int (Int32.ofNat o)), .val (.int (Int32.ofNat len)), .val .null, .unset] [])) rfl (hb hbytes d27)
  have hh5 := q5.trans hh3
  have c6 : Steps p.tables e below (s₁.setTop (entryFrame m #[.ref a, .ref b, .int (Int32.ofNat o), .int (Int32.ofNat len), .null] 6)) (T5.setTop (mkF m 30 #[.val (.ref a), .val (.ref b), .val (.int (Int32.ofNat o)), .val (.int (Int32.ofNat len)), .val .null, .unset] [.int z])) := c4.trans (st5 _ (Steps.refl _))
  have c7 : Steps p.tables e below (s₁.setTop (entryFrame m #[.ref a, .ref b, .int (Int32.ofNat o), .int (Int32.ofNat len), .null] 6)) (T5.setTop (mkF m 36 #[.val (.ref a), .val (.ref b), .val (.int (Int32.ofNat o)), .val (.int (Int32.ofNat len)), .val .null, .unset] [.int (Int32.ofNat len), .int (Int32.ofNat o), .ref b])) := c6.trans (by
    refine XS.ifNo X5.here hexec rfl (hb hbytes d30) rfl (i0_eq_f hz) ?_
    refine XS.aloadN X5.here hexec rfl (hb hbytes d33) rfl rfl ?_
    refine XS.iloadN X5.here hexec rfl (hb hbytes d34) rfl ?_
    refine XS.iloadN X5.here hexec rfl (hb hbytes d35) rfl ?_
    exact Steps.refl _)
  obtain ⟨v8, T8, X8, E8, g8⟩ := X5.callS hexec (Cmp3.law l b A o len) hown (wks W (staticW "java/lang/String" 177 Cmp3.yN)) (wk W Cmp3.tab) (W := 0) (Nat.le_of_ble_eq_true rfl) (Nat.le_of_ble_eq_true rfl) (Nat.le_refl _) (by show 0 + len ≤ len; omega) (g := (mkF m 36 #[.val (.ref a), .val (.ref b), .val (.int (Int32.ofNat o)), .val (.int (Int32.ofNat len)), .val .null, .unset] [.int (Int32.ofNat len), .int (Int32.ofNat o), .ref b])) rfl (by rw [hml]; rfl) c7 (argsL := [.ref b, .int (Int32.ofNat o), .int (Int32.ofNat len)]) (rest := []) rfl rfl (by show 2 * 0 + 0 ≤ _; decide) (hb hbytes d36) (⟨rfl, hA.mv X5.warmed.alike hh5, l1, l2, hp⟩)
  obtain ⟨e8, z8⟩ := E8
  obtain ⟨rfl, N, n1, n2, n3, n4, n5, n6⟩ := NewArr.mv _ T5 s _ _ hh5.symm (Vm.Alike.refl _) rfl e8
  rw [hh5] at z8
  have hB1 := hB.keep X8.warmed.alike (n6 _ _ hB.1)
  have hne : s.heap.size ≠ a := (Nat.ne_of_lt (Array.getElem?_eq_some_iff.mp hB.1).1).symm
  have c9 : Steps p.tables e below (s₁.setTop (entryFrame m #[.ref a, .ref b, .int (Int32.ofNat o), .int (Int32.ofNat len), .null] 6)) (T8.setTop (mkF m 39 #[.val (.ref a), .val (.ref b), .val (.int (Int32.ofNat o)), .val (.int (Int32.ofNat len)), .val .null, .unset] [.ref s.heap.size])) := g8
  have c10 : Steps p.tables e below (s₁.setTop (entryFrame m #[.ref a, .ref b, .int (Int32.ofNat o), .int (Int32.ofNat len), .null] 6)) (T8.setTop (mkF m 45 #[.val (.ref a), .val (.ref b), .val (.int (Int32.ofNat o)), .val (.int (Int32.ofNat len)), .val .null, .val (.ref s.heap.size)] [.int (Int32.ofNat N.slots.size), .ref s.heap.size, .ref a])) := by
    have hc : Steps p.tables e below (s₁.setTop (entryFrame m #[.ref a, .ref b, .int (Int32.ofNat o), .int (Int32.ofNat len), .null] 6)) (T8.setTop (mkF m 45 #[.val (.ref a), .val (.ref b), .val (.int (Int32.ofNat o)), .val (.int (Int32.ofNat len)), .val .null, .val (.ref s.heap.size)] [.int (Int32.ofNat len), .ref s.heap.size, .ref a])) := c9.trans (by
      refine XS.astore X8.here hexec rfl (hb hbytes d39) rfl rfl rfl ?_
      refine XS.aloadN X8.here hexec rfl (hb hbytes d41) rfl rfl ?_
      refine XS.aload X8.here hexec rfl (hb hbytes d42) rfl rfl ?_
      refine XS.iloadN X8.here hexec rfl (hb hbytes d44) rfl ?_
      exact Steps.refl _)
    rw [n4]; exact hc
  obtain ⟨v11, T11, X11, E11, g11⟩ := X8.callS hexec (CodL.law l s.heap.size N) hown (wks W (staticW "java/lang/String" 47 CodL.yN)) (wk W CodL.tab) (W := 1) (Nat.le_of_ble_eq_true rfl) (Nat.le_of_ble_eq_true rfl) (Nat.le_refl _) (by show 0 + len + 0 ≤ len; omega) (g := (mkF m 45 #[.val (.ref a), .val (.ref b), .val (.int (Int32.ofNat o)), .val (.int (Int32.ofNat len)), .val .null, .val (.ref s.heap.size)] [.int (Int32.ofNat N.slots.size), .ref s.heap.size, .ref a])) rfl (by rw [hml]; rfl) c10 (argsL := [.ref s.heap.size, .int (Int32.ofNat N.slots.size)]) (rest := [.ref a]) rfl rfl (by show 2 * 0 + (1 + 0) ≤ _; decide) (hb hbytes d45) (⟨rfl, n1⟩)
  obtain ⟨rfl, q11⟩ := E11
  have hB11 := hB1.mv (X8.warmed.alike.symm.trans X11.warmed.alike) q11
  have c12 : Steps p.tables e below (s₁.setTop (entryFrame m #[.ref a, .ref b, .int (Int32.ofNat o), .int (Int32.ofNat len), .null] 6)) (T11.setTop (mkF m 48 #[.val (.ref a), .val (.ref b), .val (.int (Int32.ofNat o)), .val (.int (Int32.ofNat len)), .val .null, .val (.ref s.heap.size)] [.int 0, .ref a])) := g11
  obtain ⟨T13, X13, p13, bl13, sl13, st13⟩ := X11.finit hexec hown (wk W (.fieldLink "java/lang/String" 15 "java/lang/String" "coder" "B")) (Or.inr ⟨_, (wk W (.laysFinal "java/lang/String" "java/lang/String" "coder" "B"))⟩) (Or.inl ⟨rfl, hnm⟩) f2 (Or.inl rfl) hB11 (t := .byte) (by decide +kernel) rfl (g := (mkF m 48 #[.val (.ref a), .val (.ref b), .val (.int (Int32.ofNat o)), .val (.int (Int32.ofNat len)), .val .null, .val (.ref s.heap.size)] [.int 0, .ref a])) rfl (rest := []) rfl (hb hbytes d48)
  have c14 : Steps p.tables e below (s₁.setTop (entryFrame m #[.ref a, .ref b, .int (Int32.ofNat o), .int (Int32.ofNat len), .null] 6)) (T13.setTop (mkF m 54 #[.val (.ref a), .val (.ref b), .val (.int (Int32.ofNat o)), .val (.int (Int32.ofNat len)), .val .null, .val (.ref s.heap.size)] [.ref s.heap.size, .ref a])) := (c12.trans (st13 _ (Steps.refl _))).trans (by
    refine XS.aloadN X13.here hexec rfl (hb hbytes d51) rfl rfl ?_
    refine XS.aload X13.here hexec rfl (hb hbytes d52) rfl rfl ?_
    exact Steps.refl _)
  obtain ⟨T15, X15, p15, bl15, sl15, st15⟩ := X13.finit hexec hown (wk W (.fieldLink "java/lang/String" 9 "java/lang/String" "value" "[B")) (Or.inr ⟨_, (wk W (.laysFinal "java/lang/String" "java/lang/String" "value" "[B"))⟩) (Or.inl ⟨rfl, hnm⟩) f1 (Or.inl rfl) bl13 (t := (.array .byte)) (by decide +kernel) rfl (g := (mkF m 54 #[.val (.ref a), .val (.ref b), .val (.int (Int32.ofNat o)), .val (.int (Int32.ofNat len)), .val .null, .val (.ref s.heap.size)] [.ref s.heap.size, .ref a])) rfl (rest := []) rfl (hb hbytes d54)
  have c16 : Steps p.tables e below (s₁.setTop (entryFrame m #[.ref a, .ref b, .int (Int32.ofNat o), .int (Int32.ofNat len), .null] 6)) (T15.setTop (mkF m 57 #[.val (.ref a), .val (.ref b), .val (.int (Int32.ofNat o)), .val (.int (Int32.ofNat len)), .val .null, .val (.ref s.heap.size)] [])) := c14.trans (st15 _ (Steps.refl _))
  have ap := apart (Or.inr ⟨_, (wk W (.laysFinal "java/lang/String" "java/lang/String" "value" "[B"))⟩) (Or.inr ⟨_, (wk W (.laysFinal "java/lang/String" "java/lang/String" "coder" "B"))⟩) f1 f2 (t₁ := .array .byte) (t₂ := .byte) (by decide +kernel) (by decide +kernel) (by decide)
  have al := X8.warmed.alike.symm.trans X15.warmed.alike
  have n7 : T11.heap[s.heap.size]? = some N := by rw [q11]; exact n1.1
  exact ⟨T15, none, _, _, _, X15, by simp, rfl, by omega, (fun _ => rfl), ⟨rfl, _, N, bl15, ((Same.refl D _).set _ (by simp)).set _ (by simp), sl15, (Cell.slots_setSlot_ne _ ap).trans sl13, n1.keep al (p15.other hne (p13.other hne n7)), n2, by rw [al.findClass]; exact n3, n4, n5, fun y c h1 h2 => p15.other h1 (p13.other h1 (by rw [q11]; exact n6 y c h2)), by rw [p15.2.2, p13.2.2, q11]; exact z8⟩, fun fs hl => c16.trans (X15.returnOut hexec hret (hb hbytes d57) hl)⟩
end New4
namespace New1
def yN : MethodName := ⟨"java/lang/String", "<init>", "([C)V"⟩
abbrev yB : ByteArray := jdk_42_method_3_code
theorem d0 : decode yB 0 = .ok (.aload_n 0, 1) := by decide +kernel
theorem d1 : decode yB 1 = .ok (.aload_n 1, 1) := by decide +kernel
theorem d2 : decode yB 2 = .ok (.iconst 0, 1) := by decide +kernel
theorem d3 : decode yB 3 = .ok (.aload_n 1, 1) := by decide +kernel
theorem d4 : decode yB 4 = .ok (.arraylength, 1) := by decide +kernel
theorem d5 : decode yB 5 = .ok (.aconst_null, 1) := by decide +kernel
theorem d6 : decode yB 6 = .ok (.invokespecial 27, 3) := by decide +kernel
theorem d9 : decode yB 9 = .ok (.return_, 1) := by decide +kernel
def site : List Cond := [New4.tab] ++ initW "java/lang/String" 27 New4.yN
def tab : Cond := tabOf yN yB 2 none site
def P (a : Addr) (D : Cell) (fV fC : Field) (b : Addr) (A : Cell) (z : Int32) (args : Array Value) (s : State) : Prop := args = #[.ref a, .ref b] ∧ Blank "java/lang/String" a D s ∧ Found "java/lang/String" "value" "[B" fV s ∧ Found "java/lang/String" "coder" "B" fC s ∧ Ch b A s ∧ StaticIs s "java/lang/String" "COMPACT_STRINGS" "Z" (.int z) ∧ ¬ z = 0 ∧ 0 < A.slots.size ∧ A.slots.size ≤ 536870912 ∧ ∀ i, i < A.slots.size → ¬ 255 < cv A i
def E (a : Addr) (D : Cell) (fV fC : Field) (A : Cell) (r : Option Value) (s u : State) : Prop := Got a D fV fC A 0 A.slots.size r s u
/-- new String(chars), not empty, no char above 255: a Latin-1 String of their low bytes -/
theorem law (l : Launch) (a : Addr) (D : Cell) (fV fC : Field) (b : Addr) (A : Cell) (z : Int32) : Law l yN 2 1 3 52 yB 2 none site (P a D fV fC b A z) (E a D fV fC A) [⟨a, fC.slot⟩, ⟨a, fV.slot⟩] 1 A.slots.size := by
  refine Law.of_walk (plainFor_of_name (by decide +kernel)) (by decide +kernel) (by decide +kernel) (by decide) (fun _ _ h => by rw [h.1]; rfl) (fun _ U U' hal hh h => ⟨h.1, h.2.1.mv hal hh, h.2.2.1.al hal, h.2.2.2.1.al hal, h.2.2.2.2.1.mv hal hh, h.2.2.2.2.2.1.there hal hh, h.2.2.2.2.2.2⟩) (fun r U U' V V' h1 hal h2 h => Got.mv r U U' V V' h1 hal h2 h) ?_
  intro p e s m args below meth c s₁ X0 hexec hbytes hml hret hlk hnm hown hh0 W hP
  obtain ⟨rfl, hB, f1, f2, hA, s1, hz, l0, l2, hp⟩ := hP
  have c1 : Steps p.tables e below (s₁.setTop (entryFrame m #[.ref a, .ref b] 2)) (s₁.setTop (mkF m 0 #[.val (.ref a), .val (.ref b)] [])) := entry rfl
  have c2 : Steps p.tables e below (s₁.setTop (entryFrame m #[.ref a, .ref b] 2)) (s₁.setTop (mkF m 6 #[.val (.ref a), .val (.ref b)] [.null, .int (Int32.ofNat A.slots.size), .int 0, .ref b, .ref a])) := c1.trans (by
    refine XS.aloadN X0.here hexec rfl (hb hbytes d0) rfl rfl ?_
    refine XS.aloadN X0.here hexec rfl (hb hbytes d1) rfl rfl ?_
    refine iconstV X0.here hexec rfl 0 (hb hbytes d2) (by decide) ?_
    refine XS.aloadN X0.here hexec rfl (hb hbytes d3) rfl rfl ?_
    refine X0.alen hexec (hA.1.mv X0.warmed.alike hh0) rfl rfl (hb hbytes d4) ?_
    refine XS.aconstNull X0.here hexec rfl (hb hbytes d5) ?_
    exact Steps.refl _)
  obtain ⟨v3, T3, X3, E3, g3⟩ := X0.callN hexec (New4.law l a D fV fC b A z 0 A.slots.size) rfl hown (wks W (initW "java/lang/String" 27 New4.yN)) (W New4.tab (by simp only [site, List.mem_cons, List.mem_append, true_or, or_true])) (W := 0) (Nat.le_of_ble_eq_true rfl) (Nat.le_of_ble_eq_true rfl) (Nat.le_refl _) (by show 0 + A.slots.size ≤ A.slots.size; omega) (g := (mkF m 6 #[.val (.ref a), .val (.ref b)] [.null, .int (Int32.ofNat A.slots.size), .int (Int32.ofNat 0), .ref b, .ref a])) rfl (by rw [hml]; rfl) c2 (argsL := [.ref b, .int (Int32.ofNat 0), .int (Int32.ofNat A.slots.size), .null]) (rest := []) rfl rfl (by show 2 * 0 + 0 ≤ _; decide) (hb hbytes d6) (⟨rfl, hB.mv X0.warmed.alike hh0, f1.al X0.warmed.alike, f2.al X0.warmed.alike, hA.mv X0.warmed.alike hh0, s1.there X0.warmed.alike hh0, hz, l0, by omega, l2, fun i hi => by rw [Nat.zero_add]; exact hp i hi⟩)
  have e0 := Got.mv _ s₁ s _ _ hh0.symm (Vm.Alike.refl _) rfl E3
  obtain rfl := e0.1
  have c4 : Steps p.tables e below (s₁.setTop (entryFrame m #[.ref a, .ref b] 2)) (T3.setTop (mkF m 9 #[.val (.ref a), .val (.ref b)] [])) := g3
  exact ⟨T3, none, _, _, _, X3, by simp, rfl, by omega, (fun _ => rfl), e0, fun fs hl => c4.trans (X3.returnOut hexec hret (hb hbytes d9) hl)⟩
theorem pays {l : Launch} {R : Room} {p : Program} {e : Env} {below : List Frame} {s : State} {sargs : Array Value} {len W : Nat} (a : Addr) (D : Cell) (fV fC : Field) (b : Addr) (A : Cell) (z : Int32) (htab : tab.before sargs s = true) (hfr : 4 ≤ R.frames) (hlo : W + 65 ≤ R.locals) :
    Back l R p e below s sargs yN len W (fun A₁ a₁ => A₁.cells + 1 ≤ R.cells ∧ A₁.slots + A.slots.size ≤ R.slots ∧ P a D fV fC b A z a₁ A₁.U) (fun A₁ _ v₁ B₁ => E a D fV fC A v₁ A₁.U B₁.U ∧ B₁.locs = A₁.locs ++ [⟨a, fC.slot⟩, ⟨a, fV.slot⟩] ∧ B₁.cells = A₁.cells + 1 ∧ B₁.slots = A₁.slots + A.slots.size) :=
  (law l a D fV fC b A z).pays htab hfr (by omega)
end New1
end StrChars
namespace StrChars.Road
open Jvm Sem ClassFile Op Lib Jvm.Stand Jvm.Free Jvm.Free.XT
open Jvm.Lib.Cold (StaticIs)
abbrev ST : String := "java/lang/String"
/-- every table word that New1's law asks, flat -/
abbrev words : List Jvm.Cond := [.code New1.yN New1.yB 2 none, .initialized ST, .methodLink ST 27 New4.yN, .instanceMethod New4.yN,
  .code New4.yN New4.yB 6 none, .fieldLink ST 38 ST "COMPACT_STRINGS" "Z", .laysFinal ST ST "value" "[B", .fieldLink ST 9 ST "value" "[B", .laysFinal ST ST "coder" "B", .fieldLink ST 15 ST "coder" "B",
  .methodLink ST 1 Lib.objectInit, .instanceMethod Lib.objectInit, .code Lib.objectInit ⟨#[0xb1]⟩ 1 none, .methodLink ST 177 Cmp3.yN, .static Cmp3.yN, .methodLink ST 47 CodL.yN, .static CodL.yN,
  .code Cmp3.yN Cmp3.yB 6 (some (.array .byte)), .initialized U16, .arrayClass .byte, .methodLink U16 115 Cmp5.yN, .static Cmp5.yN, .code Cmp5.yN Cmp5.yB 7 (some .int), .code CodL.yN CodL.yB 2 (some .byte)]
theorem tab_of {a : Array Value} {s : State} (h : ∀ w ∈ words, w.before a s = true) : New1.tab.before a s = true := by
  have h5 : Cmp5.tab.before a s = true := unparts (wk h (.code Cmp5.yN Cmp5.yB 7 (some .int))) (wks h (.initialized Cmp5.yN.cls :: Cmp5.site))
  have hc : CodL.tab.before a s = true := unparts (wk h (.code CodL.yN CodL.yB 2 (some .byte))) (wks h (.initialized CodL.yN.cls :: CodL.site))
  have q5 : ∀ w ∈ Cmp5.tab :: words, w.before a s = true := fun w hw => (List.mem_cons.mp hw).elim (fun e => e ▸ h5) (h w)
  have h3 : Cmp3.tab.before a s = true := unparts (wk q5 (.code Cmp3.yN Cmp3.yB 6 (some (.array .byte)))) (wks q5 (.initialized Cmp3.yN.cls :: Cmp3.site))
  have q3 : ∀ w ∈ Cmp3.tab :: CodL.tab :: words, w.before a s = true := fun w hw => (List.mem_cons.mp hw).elim (fun e => e ▸ h3) fun hw => (List.mem_cons.mp hw).elim (fun e => e ▸ hc) (h w)
  have h4 : New4.tab.before a s = true := unparts (wk q3 (.code New4.yN New4.yB 6 none)) (wks q3 (.initialized New4.yN.cls :: New4.site))
  have q4 : ∀ w ∈ New4.tab :: words, w.before a s = true := fun w hw => (List.mem_cons.mp hw).elim (fun e => e ▸ h4) (h w)
  exact unparts (wk q4 (.code New1.yN New1.yB 2 none)) (wks q4 (.initialized New1.yN.cls :: New1.site))
/-- the words ride from the start Z to the walk's own state -/
theorem moved {Z s : State} {a0 args : Array Value} (hZ : Z.Warmed39 s.vm) (hw : ∀ d ∈ words, d.before a0 Z = true) : ∀ d ∈ words, d.before args s = true := fun d hd => by
  have q := hw d hd
  have t : ∀ d ∈ words, d = .arrayClass .byte ∨ (d.onTables && d.keepsFace) = true := by decide +kernel
  rcases t d hd with rfl | t
  · exact RoadKit.mvA hZ q
  · exact RoadKit.mv hZ q t
/-- WHAT COMES BACK, over the tables of the start Z: h the heap at the call, h' behind it -/
def Q (Z : State) (x : Addr) (A : Cell) (h : Heap) (v : Option Value) (h' : Heap) (L : List Loc) : Prop := v = none ∧ (∀ y ∈ L, y.base = x) ∧ RoadKit.Keep h h' [x] ∧ h'.size = h.size + 1 ∧ RoadKit.Exa Z h' x ST ∧ RoadKit.Fld Z h' x ST "value" "[B" (.ref h.size) ∧ RoadKit.Fld Z h' x ST "coder" "B" (.int 0) ∧
  (∃ V : Cell, RoadKit.Arr Z h' h.size V .byte ∧ V.vm = .none ∧ Z.vm.findClass "[B" = some V.cls ∧ V.slots.size = A.slots.size ∧ ∀ j, j < A.slots.size → V.slots[j]? = some (.int (lo8 (cv A j)))) ∧
  ∀ (O n d : String) (w : Value), RoadKit.Fld Z h x O n d w → RoadKit.slotOf Z O n d ≠ RoadKit.slotOf Z ST "value" "[B" → RoadKit.slotOf Z O n d ≠ RoadKit.slotOf Z ST "coder" "B" → RoadKit.Fld Z h' x O n d w
/-- **new String(chars) AT A CALL, IN THE ROAD'S FORM**: for specialBack behind newO: x the fresh String, b the char[] with the cell A -/
theorem back {p : Program} {l : Launch} {e : Env} {R : Room} {s : State} {args : Array Value} {below : List Frame} {len W : Nat} {Z : State} {a0 : Array Value} {h : Heap} (hZ : Z.Warmed39 s.vm) (hw : ∀ d ∈ words, d.before a0 Z = true) {kI : Nat} (wi : (Jvm.Cond.instantiable ST kI).before a0 Z = true)
    {x b : Addr} {A : Cell} {z : Int32} {v0 c0 : Value} (E : RoadKit.Exa Z h x ST) (V : RoadKit.Fld Z h x ST "value" "[B" v0) (C : RoadKit.Fld Z h x ST "coder" "B" c0) (K : RoadKit.Arr Z h b A .char) (hty : Typed .char A) (S : RoadKit.Sta Z h ST "COMPACT_STRINGS" "Z" (.int z)) (hz : ¬ z = 0)
    (l0 : 0 < A.slots.size) (l2 : A.slots.size ≤ 536870912) (hp : ∀ i, i < A.slots.size → ¬ 255 < cv A i) (hfr : 4 ≤ R.frames) (hlo : W + 65 ≤ R.locals) :
    Back l R p e below s args New1.yN len W (fun P a => a = #[.ref x, .ref b] ∧ P.U.heap = h ∧ P.cells + 1 ≤ R.cells ∧ P.slots + A.slots.size ≤ R.slots)
      (fun P _ v B => ∃ L, Q Z x A h v B.U.heap L ∧ B.locs = P.locs ++ L ∧ B.cells = P.cells + 1 ∧ B.slots = P.slots + A.slots.size) := by
  intro m meth c P g ig mk a X hg hsize hdg hW hn hp'
  obtain ⟨rfl, rfl, r1, r2⟩ := hp'
  have al : Z.vm.Alike P.U.vm := hZ.alike.trans X.warmed.alike
  obtain ⟨D, cfV, kV, iV, fV, hD, gV, stV, knV, obV, asV, slV⟩ := id V
  obtain ⟨D', cfC, kC, iC, fC, hD', gC, stC, -, -, asC, slC⟩ := id C
  cases hD.symm.trans hD'
  obtain ⟨D2, kD, e1, e2, e3, e4, e5⟩ := id E
  cases hD.symm.trans e1
  obtain ⟨c2, k2, i1, i2, i3, -⟩ := Cond.instantiable_spec wi
  cases e2.symm.trans i1
  cases e3.symm.trans i2
  obtain ⟨kU, u1, u2⟩ := al.2.2 _ _ e3
  have hB : Blank ST x D P.U := ⟨hD, ⟨knV, fun q hq => by rw [hq] at obV; cases obV⟩, by rw [al.findClass]; exact e2, kU, u1, by rw [u2]; exact i3, by rw [u2]; exact e5 i3⟩
  have F1 : Found ST "value" "[B" fV P.U := ⟨SBG.found_only al ⟨cfV, kV, iV, gV⟩, stV⟩
  have F2 : Found ST "coder" "B" fC P.U := ⟨SBG.found_only al ⟨cfC, kC, iC, gC⟩, stC⟩
  have hA : Ch b A P.U := ⟨⟨K.1, State.isArrayOf_alike al K.2.1, K.2.2, by omega⟩, hty⟩
  have hS : StaticIs P.U ST "COMPACT_STRINGS" "Z" (.int z) := by
    obtain ⟨cfS, iS, kS, fS, st, cS, t1, t2, t3, t4, t5, t6, t7⟩ := S
    exact StaticIs.there (s := { Z with heap := P.U.heap }) ⟨cfS, iS, kS, fS, st, cS, t1, t2, t3, t4, t5, (fun q => by rw [q] at t6; cases t6), t7⟩ al rfl
  obtain ⟨v, B, X', ⟨⟨hv, E', V', q1, q2, q3, q4, q5, q6, q7, q8, q9, q10, q11⟩, hl, hc, hs⟩, st⟩ := New1.pays x D fV fC b A z (tab_of (moved hZ hw)) hfr hlo m meth c P g ig mk _ X hg hsize hdg hW hn ⟨r1, r2, rfl, hB, F1, F2, hA, hS, hz, l0, l2, hp⟩
  have al' : Z.vm.Alike B.U.vm := hZ.alike.trans X'.warmed.alike
  have hsz : E'.slots.size = D.slots.size := by
    obtain ⟨-, -, -, kB, w1, w2, w3⟩ := q1
    obtain ⟨kB', y1, y2⟩ := al'.2.2 _ _ e3
    rw [q2.2.1] at w1
    cases w1.symm.trans y1
    rw [w3, e5 i3, y2]
  refine ⟨v, B, X', ⟨_, ⟨hv, ?_, ⟨by omega, fun y cy hy hn' => q10 y cy (by simpa using hn') hy, fun y cy hy => ?_⟩, q11, ⟨E', _, q1.1, by rw [q2.2.1]; exact e2, by rw [q2.2.1]; exact e3, by rw [q2.1]; exact obV, fun _ => by rw [hsz]; exact e5 i3⟩,
    ⟨E', cfV, kV, iV, fV, q1.1, gV, stV, by rw [q2.1]; exact knV, by rw [q2.1]; exact obV, by rw [q2.2.1]; exact asV, q3⟩, ⟨E', cfC, kC, iC, fC, q1.1, gC, stC, by rw [q2.1]; exact knV, by rw [q2.1]; exact obV, by rw [q2.2.1]; exact asC, q4⟩,
    ⟨V', ⟨q5.1, State.isArrayOf_alike al'.symm q5.2.1, q5.2.2.1⟩, q6, by rw [← al'.findClass]; exact q7, q8, fun j hj => by have := q9 j hj; rwa [Nat.zero_add] at this⟩, fun O n d w F n1 n2 => ?_⟩, hl, hc, hs⟩, st⟩
  · intro y hy
    simp only [List.mem_cons, List.not_mem_nil, or_false] at hy
    rcases hy with rfl | rfl <;> rfl
  · by_cases q : y = x
    · subst q
      cases hD.symm.trans hy
      exact ⟨E', q1.1, q2.2.1, q2.1, hsz⟩
    · exact ⟨cy, q10 y cy q hy, rfl, rfl, rfl⟩
  · obtain ⟨D3, cf, k, i, f, g1, g2, g3, g4, g5, g6, g7⟩ := F
    cases hD.symm.trans g1
    simp only [RoadKit.slotOf, g2, gV, gC, Option.map_some, Option.getD_some] at n1 n2
    exact ⟨E', cf, k, i, f, q1.1, g2, g3, by rw [q2.1]; exact g4, by rw [q2.1]; exact g5, by rw [q2.2.1]; exact g6, by rw [q2.2.2 f.slot (by simp [n1, n2])]; exact g7⟩
end StrChars.Road
namespace StrChars.Road
open Jvm Sem ClassFile Op Lib Jvm.Stand Jvm.Free Jvm.Free.XT
/-- WHAT COMES BACK, the byte[] as a list of values -/
def QA (Z : State) (x : Addr) (zn : Int32) (cs : List Int32) (h : Heap) (v : Option Value) (h' : Heap) (L : List Loc) : Prop := v = none ∧ (∀ y ∈ L, y.base = x) ∧ RoadKit.Keep h h' [x] ∧ h'.size = h.size + 1 ∧ RoadKit.Exa Z h' x ST ∧ RoadKit.Fld Z h' x ST "value" "[B" (.ref h.size) ∧ RoadKit.Fld Z h' x ST "coder" "B" (.int 0) ∧
  (∃ kb, Z.vm.findClass "[B" = some kb ∧ RoadKit.Arv Z h' h.size kb .byte zn (cs.map fun c => .int (lo8 c)) (.int 0)) ∧
  ∀ (O n d : String) (w : Value), RoadKit.Fld Z h x O n d w → RoadKit.slotOf Z O n d ≠ RoadKit.slotOf Z ST "value" "[B" → RoadKit.slotOf Z O n d ≠ RoadKit.slotOf Z ST "coder" "B" → RoadKit.Fld Z h' x O n d w
/-- **new String(chars) AT A CALL, THE ARRAYS AS LISTS**: the char[] at b holds cs, not empty, no char above 255 -/
theorem backArv {p : Program} {l : Launch} {e : Env} {R : Room} {s : State} {args : Array Value} {below : List Frame} {len W : Nat} {Z : State} {a0 : Array Value} {h : Heap} (hZ : Z.Warmed39 s.vm) (hw : ∀ d ∈ words, d.before a0 Z = true) {kI : Nat} (wi : (Jvm.Cond.instantiable ST kI).before a0 Z = true)
    {x b : Addr} {k : ClassId} {zn z : Int32} {cs : List Int32} {dv v0 c0 : Value} (E : RoadKit.Exa Z h x ST) (V : RoadKit.Fld Z h x ST "value" "[B" v0) (C : RoadKit.Fld Z h x ST "coder" "B" c0) (K : RoadKit.Arv Z h b k .char zn (cs.map Value.int) dv) (S : RoadKit.Sta Z h ST "COMPACT_STRINGS" "Z" (.int z)) (hz : ¬ z = 0)
    (hlen : zn.toNatClampNeg = cs.length) (h0 : 0 < cs.length) (hbig : cs.length ≤ 536870912) (hall : ∀ c ∈ cs, ¬ 255 < c) (hfr : 4 ≤ R.frames) (hlo : W + 65 ≤ R.locals) :
    Back l R p e below s args New1.yN len W (fun P a => a = #[.ref x, .ref b] ∧ P.U.heap = h ∧ P.cells + 1 ≤ R.cells ∧ P.slots + cs.length ≤ R.slots)
      (fun P _ v B => ∃ L, QA Z x zn cs h v B.U.heap L ∧ B.locs = P.locs ++ L ∧ B.cells = P.cells + 1 ∧ B.slots = P.slots + cs.length) := by
  obtain ⟨A, K1, K2, K3, K4, K5, K6⟩ := K
  have e : A.slots.size = cs.length := K3.trans hlen
  have hat : ∀ (i : Nat) (hi : i < cs.length), A.slots[i]? = some (.int cs[i]) := fun i hi => by rw [K5 i (by omega)]; simp [List.getD_eq_getElem?_getD, hi]
  have hcv : ∀ (i : Nat) (hi : i < cs.length), cv A i = cs[i] := fun i hi => by unfold cv; rw [hat i hi]
  have hty : Typed .char A := fun i v hv => by
    have hi : i < A.slots.size := (Array.getElem?_eq_some_iff.mp hv).1
    have q := K5 i hi
    rw [hv] at q
    rw [Option.some.inj q]
    exact K6 i hi
  refine Back.mono (back hZ hw wi E V C K1 hty S hz (by omega) (by omega) (fun i hi => by rw [hcv i (by omega)]; exact hall _ (List.getElem_mem _)) hfr hlo) (fun P a hp => ⟨hp.1, hp.2.1, hp.2.2.1, by rw [e]; exact hp.2.2.2⟩) (fun P a v B hp hq => ?_)
  obtain ⟨L, ⟨q1, q2, q3, q4, q5, q6, q7, ⟨V', v1, v2, v3, v4, v5⟩, q9⟩, hl, hc, hs⟩ := hq
  refine ⟨L, ⟨q1, q2, q3, q4, q5, q6, q7, ⟨V'.cls, v3, V', v1, rfl, by rw [v4, e, hlen], K4, fun i hi => ?_, fun i hi => ?_⟩, q9⟩, hl, hc, by rw [hs, e]⟩
  · have hi' : i < cs.length := by omega
    rw [v5 i (by omega), hcv i hi']; simp [List.getD_eq_getElem?_getD, hi']
  · have hi' : i < cs.length := by omega
    simp only [List.getD_eq_getElem?_getD, List.getElem?_map, List.getElem?_eq_getElem hi', Option.map_some, Option.getD_some]
    exact fits_lo8 _
end StrChars.Road
namespace StrChars.Road
open Jvm Sem ClassFile Op Lib Jvm.Stand Jvm.Free Jvm.Free.XT
/-- WHAT COMES BACK, in the writer's own shape -/
def QV (Z : State) (x : Addr) (N : Int32) (bs : List Int32) (h : Heap) (n0 : Nat) (v : Option Value) (h' : Heap) (L : List Loc) : Prop := v = none ∧ RoadKit.Fr n0 L ∧ RoadKit.Keep h h' [x] ∧ RoadKit.Exa Z h' x ST ∧ RoadKit.Fld Z h' x ST "coder" "B" (.int 0) ∧
  ∃ (t : Addr) (kb : ClassId), n0 ≤ t ∧ h.size ≤ t ∧ ¬ t = x ∧ RoadKit.Fld Z h' x ST "value" "[B" (.ref t) ∧ RoadKit.Arv Z h' t kb .byte N (bs.map Value.int) (.int 0)
/-- **new String(chars) AT A CALL, FOR THE WRITER**: a char[] of n known ints, each 0 to 255 -/
theorem backV {p : Program} {l : Launch} {e : Env} {R : Room} {s : State} {args : Array Value} {below : List Frame} {len W : Nat} {Z : State} {a0 : Array Value} {h : Heap} (hZ : Z.Warmed39 s.vm) (hw : ∀ d ∈ words, d.before a0 Z = true) {kI : Nat} (wi : (Jvm.Cond.instantiable ST kI).before a0 Z = true)
    {x b : Addr} {kC : ClassId} {cs bs : List Int32} {d v0 c0 : Value} {z N : Int32} {n n0 : Nat} (hx0 : n0 ≤ x) (hh0 : n0 ≤ h.size) (E : RoadKit.Exa Z h x ST) (V : RoadKit.Fld Z h x ST "value" "[B" v0) (C : RoadKit.Fld Z h x ST "coder" "B" c0) (K : RoadKit.Arv Z h b kC .char N (cs.map Value.int) d) (S : RoadKit.Sta Z h ST "COMPACT_STRINGS" "Z" (.int z)) (hz : ¬ z = 0)
    (hn : cs.length = n) (hN : N = Int32.ofNat n) (l0 : 0 < n) (l2 : n ≤ 4000) (hp : ∀ c ∈ cs, ¬ c < 0 ∧ ¬ (255 : Int32) < c) (hb : bs = cs.map (fun c => c.toInt8.toInt32)) (hfr : 4 ≤ R.frames) (hlo : W + 65 ≤ R.locals) :
    Back l R p e below s args (⟨"java/lang/String", "<init>", "([C)V"⟩ : MethodName) len W (fun P a => a = #[.ref x, .ref b] ∧ P.U.heap = h ∧ P.cells + 1 ≤ R.cells ∧ P.slots + n ≤ R.slots)
      (fun P _ v B => ∃ L, QV Z x N bs h n0 v B.U.heap L ∧ B.locs = P.locs ++ L ∧ B.cells = P.cells + 1 ∧ B.slots = P.slots + n) := by
  subst hn hN hb
  refine Back.mono (backArv hZ hw wi E V C K S hz (n32 (by omega)) l0 (by omega) (fun c hc => (hp c hc).2) hfr hlo) (fun P a hp => hp) (fun P a v B hp hq => ?_)
  obtain ⟨L, ⟨q1, q2, q3, q4, q5, q6, q7, ⟨kb, v1, v2⟩, q9⟩, hl, hc, hs⟩ := hq
  exact ⟨L, ⟨q1, fun y hy => by rw [q2 y hy]; exact hx0, q3, q5, q7, h.size, kb, hh0, Nat.le_refl _, Nat.ne_of_gt E.lt, q6, by rw [List.map_map]; exact v2⟩, hl, hc, hs⟩
end StrChars.Road
namespace StrChars
open Jvm Sem ClassFile Op Lib Jvm.Stand Jvm.Free.XT Jvm.Free.ALB Jvm.Free.JM Jvm.Free
open Jvm.Lib.Cold (StaticIs)
def hi8 (x : Int32) : Int32 := lo8 (x >>> ((8 : Int32) &&& 31))
end StrChars
namespace StrChars.Road
open Jvm Sem ClassFile Op Lib Jvm.Stand Jvm.Free Jvm.Free.XT
open Jvm.Lib.Cold (StaticIs)
/-- the bytes of the chars cs, low before high -/
def wideBytes : List Int32 → List Value
  | [] => []
  | c :: cs => .int (lo8 c) :: .int (hi8 c) :: wideBytes cs
/-- an array of N2 bytes vs codes the chars cs by the coder cd -/
def CodA (cs : List Int32) (cd N2 : Int32) (vs : List Value) : Prop := (cd = 0 ∧ N2 = Int32.ofNat cs.length ∧ vs = (cs.map fun c => Value.int (lo8 c)) ∧ ∀ c ∈ cs, ¬ 255 < c) ∨ (cd = 1 ∧ N2 = Int32.ofNat (2 * cs.length) ∧ vs = wideBytes cs ∧ ∃ c ∈ cs, 255 < c)
end StrChars.Road
namespace StrChars.Road
open Jvm Sem ClassFile Op Lib Jvm.Stand Jvm.Free Jvm.Free.XT
open Jvm.Lib.Cold (StaticIs)
/-- what backV says of its String, as the contracts of this text ask it: cs's low bytes, coder 0 -/
theorem codOf {cs : List Int32} {n : Nat} (hn : cs.length = n) (hb : ∀ c ∈ cs, ¬ 255 < c) : CodA cs 0 (Int32.ofNat n) ((cs.map lo8).map Value.int) := Or.inl ⟨rfl, by rw [hn], by simp [List.map_map, Function.comp_def], hb⟩
end StrChars.Road
end Jvm.Pilot.@@N@@
namespace Jvm.Pilot.@@N@@
open Jvm Jvm.ClassFile Sem Op Lib Jvm.Free Jvm.Stand Jvm.LawKit Jvm.RoadKit Bundle Jvm.Pilot.@@N@@.Jvm.D
section OwnKit
variable {p : Program} {l : Launch} {e : Env} {R : Room} {s : State} {m : MethodId} {args : Array Value} {below : List Frame} {meth : Method} {c : Code} {T : State} {Z : State} {own mn : String} {bytes : ByteArray} {ml n0 k n : Nat} {rt : Option FieldType} {h : Heap} {G : Outcome → State → Prop} {pc q : Nat} {L : Array Slot} {st rest : List Value} {a0 : Array Value}
/-- the run from S comes to an end of which G speaks -/
def Goes (p : Program) (e : Env) (below : List Frame) (G : Outcome → State → Prop) (S : State) : Prop := ∃ s₂ o, Steps p.tables e below S s₂ ∧ s₂.status = .running ∧ Ended s₂ below o ∧ G o s₂
theorem go_st {S S' : State} (f : ∀ t, Steps p.tables e below S' t → Steps p.tables e below S t) (r : Goes p e below G S') : Goes p e below G S := by
  obtain ⟨s₂, o, a, b⟩ := r; exact ⟨s₂, o, f _ a, b⟩
theorem go_tr {S S' : State} (f : Steps p.tables e below S S') (r : Goes p e below G S') : Goes p e below G S := by
  obtain ⟨s₂, o, a, b⟩ := r; exact ⟨s₂, o, f.trans a, b⟩
/-- what a body's walk knows from its start on -/
def Cx (p : Program) (s : State) (m : MethodId) (meth : Method) (c : Code) (Z : State) (own : String) (bytes : ByteArray) (ml : Nat) (rt : Option FieldType) (mn : String) : Prop :=
  p.tables.exec = Jvm.exec ∧ Z.Warmed39 s.vm ∧ s.vm.findClass own = some m.cls ∧ c.code = bytes ∧ c.maxLocals = ml ∧ meth.sig.returnType = rt ∧ meth.locks = false ∧ meth.name = mn
/-- where it stands: the heap is h; all that was written lies at n0 or above; at most k cells and n slots are new -/
def St (p : Program) (l : Launch) (e : Env) (R : Room) (s : State) (m : MethodId) (args : Array Value) (below : List Frame) (meth : Method) (c : Code) (n0 : Nat) (T : State) (h : Heap) (k n : Nat) : Prop :=
  ∃ locs cells slots, Stand p l e R s m args below meth c T locs cells slots ∧ Fr n0 locs ∧ T.heap = h ∧ cells ≤ k ∧ slots ≤ n
def FinN (Q : Option Value → Heap → Prop) (s : State) (n0 k n : Nat) (o : Outcome) (U : State) : Prop := ∃ v L, o = .returned v ∧ (Fr n0 L ∧ Q v U.heap) ∧ FrameEnd s o U L k n
def Met (l : Launch) (Z : State) (y : MethodName) (bytes : ByteArray) (ml : Nat) (rt : Option FieldType) (rm : Room) (as' : Array Value) (h0 : Heap) (n0 : Nat) (Q : Option Value → Heap → Prop) : Prop :=
  ∀ ws : List Jvm.Cond, MetFree l y (head1 (Jvm.Cond.code y bytes ml rt :: ws) rm) (fun a U => a = as' ∧ Z.Warmed39 U.vm ∧ U.heap = h0) (fun _ _ _ _ _ => True) (fun _ U o U' => ∃ v L, o = .returned v ∧ (Fr n0 L ∧ Q v U'.heap) ∧ FrameEnd U o U' L rm.cells rm.slots)
abbrev Met1 (l : Launch) (Z : State) (y : MethodName) (bytes : ByteArray) (ml : Nat) (rt : Option FieldType) (rm : Room) (as' : Array Value) (h0 : Heap) (n0 : Nat) (Q : Value → Heap → Prop) : Prop := Met l Z y bytes ml rt rm as' h0 n0 (fun v h => ∃ w, v = some w ∧ Q w h)
abbrev Met0 (l : Launch) (Z : State) (y : MethodName) (bytes : ByteArray) (ml : Nat) (rt : Option FieldType) (rm : Room) (as' : Array Value) (h0 : Heap) (n0 : Nat) (Q : Heap → Prop) : Prop := Met l Z y bytes ml rt rm as' h0 n0 (fun v h => v = none ∧ Q h)
theorem met_of {y : MethodName} {rm : Room} {as' : Array Value} {Q : Option Value → Heap → Prop} (hp : plainFor y = true) (hef : ∀ m, entryFrame m as' ml = mkF m 0 L [])
    (body : ∀ (p : Program) (e : Env) (s : State) (m : MethodId) (below : List Frame) (meth : Method) (c : Code) (T : State), Cx p s m meth c Z y.cls bytes ml rt y.name → St p l e rm s m as' below meth c n0 T h 0 0 → Goes p e below (FinN Q s n0 rm.cells rm.slots) (T.setTop (mkF m 0 L []))) :
    Met l Z y bytes ml rt rm as' h n0 Q := by
  intro ws
  refine MetFree.of_bodySF hp hisR ?_
  intro p e s m args below meth c s₁ Bd hml hP hK
  obtain ⟨rfl, hZ, hh⟩ := hP
  have e0 : s₁.heap = h := by rw [← hh, Bd.state]; rfl
  have b := body p e s m below meth c s₁ ⟨Bd.exec, hZ, findClass_of_methodNamed Bd.named, Bd.bytes, hml, Bd.returns, BodyLoose.notSynchronized Bd, (name_of_methodNamed Bd.named Bd.method).1⟩ ⟨[], 0, 0, Stand.of_body Bd, Fr.nil _, e0, Nat.le_refl _, Nat.le_refl _⟩
  rw [hef m]
  exact b
theorem St.mono {k' n' : Nat} (X : St p l e R s m args below meth c n0 T h k n) (hk : k ≤ k') (hn : n ≤ n') : St p l e R s m args below meth c n0 T h k' n' := by
  obtain ⟨a, b, d, x, y, z, u, v⟩ := X; exact ⟨a, b, d, x, y, z, Nat.le_trans u hk, Nat.le_trans v hn⟩
theorem g_aloadN (C : Cx p s m meth c Z own bytes ml rt mn) (X : St p l e R s m args below meth c n0 T h k n) {j : Fin 4} {v : Value} (hd : decode bytes pc = .ok (.aload_n j, 1)) (hq : pc + 1 = q) (hl : L[j.val]? = some (.val v)) (hv : v.isRef = true) (r : Goes p e below G (T.setTop (mkF m q L (v :: st)))) : Goes p e below G (T.setTop (mkF m pc L (st))) := by
  obtain ⟨hx, -, -, hby, -⟩ := C
  obtain ⟨_, _, _, X, -⟩ := X
  subst hq 
  exact go_st (fun t k => XS.aloadN X.here hx rfl (hb hby hd) hl hv k) r
theorem g_aload (C : Cx p s m meth c Z own bytes ml rt mn) (X : St p l e R s m args below meth c n0 T h k n) {j : Nat} {v : Value} (hd : decode bytes pc = .ok (.aload j, 2)) (hq : pc + 2 = q) (hl : L[j]? = some (.val v)) (hv : v.isRef = true) (r : Goes p e below G (T.setTop (mkF m q L (v :: st)))) : Goes p e below G (T.setTop (mkF m pc L (st))) := by
  obtain ⟨hx, -, -, hby, -⟩ := C
  obtain ⟨_, _, _, X, -⟩ := X
  subst hq 
  exact go_st (fun t k => XS.aload X.here hx rfl (hb hby hd) hl hv k) r
theorem g_iloadN (C : Cx p s m meth c Z own bytes ml rt mn) (X : St p l e R s m args below meth c n0 T h k n) {j : Fin 4} {v : Int32} (hd : decode bytes pc = .ok (.iload_n j, 1)) (hq : pc + 1 = q) (hl : L[j.val]? = some (.val (.int v))) (r : Goes p e below G (T.setTop (mkF m q L (.int v :: st)))) : Goes p e below G (T.setTop (mkF m pc L (st))) := by
  obtain ⟨hx, -, -, hby, -⟩ := C
  obtain ⟨_, _, _, X, -⟩ := X
  subst hq 
  exact go_st (fun t k => XS.iloadN X.here hx rfl (hb hby hd) hl k) r
theorem g_iload (C : Cx p s m meth c Z own bytes ml rt mn) (X : St p l e R s m args below meth c n0 T h k n) {j : Nat} {v : Int32} (hd : decode bytes pc = .ok (.iload j, 2)) (hq : pc + 2 = q) (hl : L[j]? = some (.val (.int v))) (r : Goes p e below G (T.setTop (mkF m q L (.int v :: st)))) : Goes p e below G (T.setTop (mkF m pc L (st))) := by
  obtain ⟨hx, -, -, hby, -⟩ := C
  obtain ⟨_, _, _, X, -⟩ := X
  subst hq 
  exact go_st (fun t k => XS.iload X.here hx rfl (hb hby hd) hl k) r
theorem g_lloadN (C : Cx p s m meth c Z own bytes ml rt mn) (X : St p l e R s m args below meth c n0 T h k n) {j : Fin 4} {v : Int64} (hd : decode bytes pc = .ok (.lload_n j, 1)) (hq : pc + 1 = q) (hl : L[j.val]? = some (.val (.long v))) (r : Goes p e below G (T.setTop (mkF m q L (.long v :: st)))) : Goes p e below G (T.setTop (mkF m pc L (st))) := by
  obtain ⟨hx, -, -, hby, -⟩ := C
  obtain ⟨_, _, _, X, -⟩ := X
  subst hq 
  exact go_st (fun t k => XS.lloadN X.here hx rfl (hb hby hd) hl k) r
theorem g_lload (C : Cx p s m meth c Z own bytes ml rt mn) (X : St p l e R s m args below meth c n0 T h k n) {j : Nat} {v : Int64} (hd : decode bytes pc = .ok (.lload j, 2)) (hq : pc + 2 = q) (hl : L[j]? = some (.val (.long v))) (r : Goes p e below G (T.setTop (mkF m q L (.long v :: st)))) : Goes p e below G (T.setTop (mkF m pc L (st))) := by
  obtain ⟨hx, -, -, hby, -⟩ := C
  obtain ⟨_, _, _, X, -⟩ := X
  subst hq 
  exact go_st (fun t k => XS.lload X.here hx rfl (hb hby hd) hl k) r
theorem g_iconst (C : Cx p s m meth c Z own bytes ml rt mn) (X : St p l e R s m args below meth c n0 T h k n) {i : Int} {z : Int32} (hd : decode bytes pc = .ok (.iconst i, 1)) (hq : pc + 1 = q) (hz : Int32.ofInt i = z) (r : Goes p e below G (T.setTop (mkF m q L (.int z :: st)))) : Goes p e below G (T.setTop (mkF m pc L (st))) := by
  obtain ⟨hx, -, -, hby, -⟩ := C
  obtain ⟨_, _, _, X, -⟩ := X
  subst hq hz
  exact go_st (fun t k => XS.iconst X.here hx rfl (hb hby hd)  k) r
theorem g_bipush (C : Cx p s m meth c Z own bytes ml rt mn) (X : St p l e R s m args below meth c n0 T h k n) {i : Int} {z : Int32} (hd : decode bytes pc = .ok (.bipush i, 2)) (hq : pc + 2 = q) (hz : (Int8.ofInt i).toInt32 = z) (r : Goes p e below G (T.setTop (mkF m q L (.int z :: st)))) : Goes p e below G (T.setTop (mkF m pc L (st))) := by
  obtain ⟨hx, -, -, hby, -⟩ := C
  obtain ⟨_, _, _, X, -⟩ := X
  subst hq hz
  exact go_st (fun t k => XS.bipush X.here hx rfl (hb hby hd)  k) r
theorem g_sipush (C : Cx p s m meth c Z own bytes ml rt mn) (X : St p l e R s m args below meth c n0 T h k n) {i : Int} {z : Int32} (hd : decode bytes pc = .ok (.sipush i, 3)) (hq : pc + 3 = q) (hz : (Int16.ofInt i).toInt32 = z) (r : Goes p e below G (T.setTop (mkF m q L (.int z :: st)))) : Goes p e below G (T.setTop (mkF m pc L (st))) := by
  obtain ⟨hx, -, -, hby, -⟩ := C
  obtain ⟨_, _, _, X, -⟩ := X
  subst hq hz
  exact go_st (fun t k => XS.sipush X.here hx rfl (hb hby hd)  k) r
theorem g_aconstNull (C : Cx p s m meth c Z own bytes ml rt mn) (X : St p l e R s m args below meth c n0 T h k n)  (hd : decode bytes pc = .ok (.aconst_null, 1)) (hq : pc + 1 = q)  (r : Goes p e below G (T.setTop (mkF m q L (.null :: st)))) : Goes p e below G (T.setTop (mkF m pc L (st))) := by
  obtain ⟨hx, -, -, hby, -⟩ := C
  obtain ⟨_, _, _, X, -⟩ := X
  subst hq 
  exact go_st (fun t k => XS.aconstNull X.here hx rfl (hb hby hd)  k) r
theorem g_iadd (C : Cx p s m meth c Z own bytes ml rt mn) (X : St p l e R s m args below meth c n0 T h k n) {x y z : Int32} (hd : decode bytes pc = .ok (.iadd, 1)) (hq : pc + 1 = q) (hz : x + y = z) (r : Goes p e below G (T.setTop (mkF m q L (.int z :: st)))) : Goes p e below G (T.setTop (mkF m pc L (.int y :: .int x :: st))) := by
  obtain ⟨hx, -, -, hby, -⟩ := C
  obtain ⟨_, _, _, X, -⟩ := X
  subst hq hz
  exact go_st (fun t k => XS.iadd X.here hx rfl (hb hby hd) rfl k) r
theorem g_isub (C : Cx p s m meth c Z own bytes ml rt mn) (X : St p l e R s m args below meth c n0 T h k n) {x y z : Int32} (hd : decode bytes pc = .ok (.isub, 1)) (hq : pc + 1 = q) (hz : x - y = z) (r : Goes p e below G (T.setTop (mkF m q L (.int z :: st)))) : Goes p e below G (T.setTop (mkF m pc L (.int y :: .int x :: st))) := by
  obtain ⟨hx, -, -, hby, -⟩ := C
  obtain ⟨_, _, _, X, -⟩ := X
  subst hq hz
  exact go_st (fun t k => XS.isub X.here hx rfl (hb hby hd) rfl k) r
theorem g_imul (C : Cx p s m meth c Z own bytes ml rt mn) (X : St p l e R s m args below meth c n0 T h k n) {x y z : Int32} (hd : decode bytes pc = .ok (.imul, 1)) (hq : pc + 1 = q) (hz : x * y = z) (r : Goes p e below G (T.setTop (mkF m q L (.int z :: st)))) : Goes p e below G (T.setTop (mkF m pc L (.int y :: .int x :: st))) := by
  obtain ⟨hx, -, -, hby, -⟩ := C
  obtain ⟨_, _, _, X, -⟩ := X
  subst hq hz
  exact go_st (fun t k => XS.imul X.here hx rfl (hb hby hd) rfl k) r
theorem g_iand (C : Cx p s m meth c Z own bytes ml rt mn) (X : St p l e R s m args below meth c n0 T h k n) {x y z : Int32} (hd : decode bytes pc = .ok (.iand, 1)) (hq : pc + 1 = q) (hz : x &&& y = z) (r : Goes p e below G (T.setTop (mkF m q L (.int z :: st)))) : Goes p e below G (T.setTop (mkF m pc L (.int y :: .int x :: st))) := by
  obtain ⟨hx, -, -, hby, -⟩ := C
  obtain ⟨_, _, _, X, -⟩ := X
  subst hq hz
  exact go_st (fun t k => XS.iand X.here hx rfl (hb hby hd) rfl k) r
theorem g_ior (C : Cx p s m meth c Z own bytes ml rt mn) (X : St p l e R s m args below meth c n0 T h k n) {x y z : Int32} (hd : decode bytes pc = .ok (.ior, 1)) (hq : pc + 1 = q) (hz : x ||| y = z) (r : Goes p e below G (T.setTop (mkF m q L (.int z :: st)))) : Goes p e below G (T.setTop (mkF m pc L (.int y :: .int x :: st))) := by
  obtain ⟨hx, -, -, hby, -⟩ := C
  obtain ⟨_, _, _, X, -⟩ := X
  subst hq hz
  exact go_st (fun t k => XS.ior X.here hx rfl (hb hby hd) rfl k) r
theorem g_ixor (C : Cx p s m meth c Z own bytes ml rt mn) (X : St p l e R s m args below meth c n0 T h k n) {x y z : Int32} (hd : decode bytes pc = .ok (.ixor, 1)) (hq : pc + 1 = q) (hz : x ^^^ y = z) (r : Goes p e below G (T.setTop (mkF m q L (.int z :: st)))) : Goes p e below G (T.setTop (mkF m pc L (.int y :: .int x :: st))) := by
  obtain ⟨hx, -, -, hby, -⟩ := C
  obtain ⟨_, _, _, X, -⟩ := X
  subst hq hz
  exact go_st (fun t k => XS.ixor X.here hx rfl (hb hby hd) rfl k) r
theorem g_ishl (C : Cx p s m meth c Z own bytes ml rt mn) (X : St p l e R s m args below meth c n0 T h k n) {x y z : Int32} (hd : decode bytes pc = .ok (.ishl, 1)) (hq : pc + 1 = q) (hz : x <<< (y &&& 31) = z) (r : Goes p e below G (T.setTop (mkF m q L (.int z :: st)))) : Goes p e below G (T.setTop (mkF m pc L (.int y :: .int x :: st))) := by
  obtain ⟨hx, -, -, hby, -⟩ := C
  obtain ⟨_, _, _, X, -⟩ := X
  subst hq hz
  exact go_st (fun t k => XS.ishl X.here hx rfl (hb hby hd) rfl k) r
theorem g_ishr (C : Cx p s m meth c Z own bytes ml rt mn) (X : St p l e R s m args below meth c n0 T h k n) {x y z : Int32} (hd : decode bytes pc = .ok (.ishr, 1)) (hq : pc + 1 = q) (hz : x >>> (y &&& 31) = z) (r : Goes p e below G (T.setTop (mkF m q L (.int z :: st)))) : Goes p e below G (T.setTop (mkF m pc L (.int y :: .int x :: st))) := by
  obtain ⟨hx, -, -, hby, -⟩ := C
  obtain ⟨_, _, _, X, -⟩ := X
  subst hq hz
  exact go_st (fun t k => XS.ishr X.here hx rfl (hb hby hd) rfl k) r
theorem g_iushr (C : Cx p s m meth c Z own bytes ml rt mn) (X : St p l e R s m args below meth c n0 T h k n) {x y z : Int32} (hd : decode bytes pc = .ok (.iushr, 1)) (hq : pc + 1 = q) (hz : (x.toUInt32 >>> (y &&& 31).toUInt32).toInt32 = z) (r : Goes p e below G (T.setTop (mkF m q L (.int z :: st)))) : Goes p e below G (T.setTop (mkF m pc L (.int y :: .int x :: st))) := by
  obtain ⟨hx, -, -, hby, -⟩ := C
  obtain ⟨_, _, _, X, -⟩ := X
  subst hq hz
  exact go_st (fun t k => XS.iushr X.here hx rfl (hb hby hd) rfl k) r
theorem g_idiv (C : Cx p s m meth c Z own bytes ml rt mn) (X : St p l e R s m args below meth c n0 T h k n) {x y z : Int32} (hd : decode bytes pc = .ok (.idiv, 1)) (hq : pc + 1 = q) (hy : y ≠ 0) (hz : x / y = z) (r : Goes p e below G (T.setTop (mkF m q L (.int z :: st)))) : Goes p e below G (T.setTop (mkF m pc L (.int y :: .int x :: st))) := by
  obtain ⟨hx, -, -, hby, -⟩ := C
  obtain ⟨_, _, _, X, -⟩ := X
  subst hq hz
  exact go_st (fun t k => XS.idiv X.here hx rfl (hb hby hd) rfl hy k) r
theorem g_irem (C : Cx p s m meth c Z own bytes ml rt mn) (X : St p l e R s m args below meth c n0 T h k n) {x y z : Int32} (hd : decode bytes pc = .ok (.irem, 1)) (hq : pc + 1 = q) (hy : y ≠ 0) (hz : x % y = z) (r : Goes p e below G (T.setTop (mkF m q L (.int z :: st)))) : Goes p e below G (T.setTop (mkF m pc L (.int y :: .int x :: st))) := by
  obtain ⟨hx, -, -, hby, -⟩ := C
  obtain ⟨_, _, _, X, -⟩ := X
  subst hq hz
  exact go_st (fun t k => iremM X hx rfl (hb hby hd) rfl hy k) r
theorem g_ineg (C : Cx p s m meth c Z own bytes ml rt mn) (X : St p l e R s m args below meth c n0 T h k n) {x z : Int32} (hd : decode bytes pc = .ok (.ineg, 1)) (hq : pc + 1 = q) (hz : -x = z) (r : Goes p e below G (T.setTop (mkF m q L (.int z :: st)))) : Goes p e below G (T.setTop (mkF m pc L (.int x :: st))) := by
  obtain ⟨hx, -, -, hby, -⟩ := C
  obtain ⟨_, _, _, X, -⟩ := X
  subst hq hz
  exact go_st (fun t k => XS.ineg X.here hx rfl (hb hby hd) rfl k) r
theorem g_ladd (C : Cx p s m meth c Z own bytes ml rt mn) (X : St p l e R s m args below meth c n0 T h k n) {x y z : Int64} (hd : decode bytes pc = .ok (.ladd, 1)) (hq : pc + 1 = q) (hz : x + y = z) (r : Goes p e below G (T.setTop (mkF m q L (.long z :: st)))) : Goes p e below G (T.setTop (mkF m pc L (.long y :: .long x :: st))) := by
  obtain ⟨hx, -, -, hby, -⟩ := C
  obtain ⟨_, _, _, X, -⟩ := X
  subst hq hz
  exact go_st (fun t k => XS.ladd X.here hx rfl (hb hby hd) rfl k) r
theorem g_lsub (C : Cx p s m meth c Z own bytes ml rt mn) (X : St p l e R s m args below meth c n0 T h k n) {x y z : Int64} (hd : decode bytes pc = .ok (.lsub, 1)) (hq : pc + 1 = q) (hz : x - y = z) (r : Goes p e below G (T.setTop (mkF m q L (.long z :: st)))) : Goes p e below G (T.setTop (mkF m pc L (.long y :: .long x :: st))) := by
  obtain ⟨hx, -, -, hby, -⟩ := C
  obtain ⟨_, _, _, X, -⟩ := X
  subst hq hz
  exact go_st (fun t k => XS.lsub X.here hx rfl (hb hby hd) rfl k) r
theorem g_lmul (C : Cx p s m meth c Z own bytes ml rt mn) (X : St p l e R s m args below meth c n0 T h k n) {x y z : Int64} (hd : decode bytes pc = .ok (.lmul, 1)) (hq : pc + 1 = q) (hz : x * y = z) (r : Goes p e below G (T.setTop (mkF m q L (.long z :: st)))) : Goes p e below G (T.setTop (mkF m pc L (.long y :: .long x :: st))) := by
  obtain ⟨hx, -, -, hby, -⟩ := C
  obtain ⟨_, _, _, X, -⟩ := X
  subst hq hz
  exact go_st (fun t k => XS.lmul X.here hx rfl (hb hby hd) rfl k) r
theorem g_land (C : Cx p s m meth c Z own bytes ml rt mn) (X : St p l e R s m args below meth c n0 T h k n) {x y z : Int64} (hd : decode bytes pc = .ok (.land, 1)) (hq : pc + 1 = q) (hz : x &&& y = z) (r : Goes p e below G (T.setTop (mkF m q L (.long z :: st)))) : Goes p e below G (T.setTop (mkF m pc L (.long y :: .long x :: st))) := by
  obtain ⟨hx, -, -, hby, -⟩ := C
  obtain ⟨_, _, _, X, -⟩ := X
  subst hq hz
  exact go_st (fun t k => XS.land X.here hx rfl (hb hby hd) rfl k) r
theorem g_lor (C : Cx p s m meth c Z own bytes ml rt mn) (X : St p l e R s m args below meth c n0 T h k n) {x y z : Int64} (hd : decode bytes pc = .ok (.lor, 1)) (hq : pc + 1 = q) (hz : x ||| y = z) (r : Goes p e below G (T.setTop (mkF m q L (.long z :: st)))) : Goes p e below G (T.setTop (mkF m pc L (.long y :: .long x :: st))) := by
  obtain ⟨hx, -, -, hby, -⟩ := C
  obtain ⟨_, _, _, X, -⟩ := X
  subst hq hz
  exact go_st (fun t k => XS.lor X.here hx rfl (hb hby hd) rfl k) r
theorem g_lxor (C : Cx p s m meth c Z own bytes ml rt mn) (X : St p l e R s m args below meth c n0 T h k n) {x y z : Int64} (hd : decode bytes pc = .ok (.lxor, 1)) (hq : pc + 1 = q) (hz : x ^^^ y = z) (r : Goes p e below G (T.setTop (mkF m q L (.long z :: st)))) : Goes p e below G (T.setTop (mkF m pc L (.long y :: .long x :: st))) := by
  obtain ⟨hx, -, -, hby, -⟩ := C
  obtain ⟨_, _, _, X, -⟩ := X
  subst hq hz
  exact go_st (fun t k => XS.lxor X.here hx rfl (hb hby hd) rfl k) r
theorem g_lshl (C : Cx p s m meth c Z own bytes ml rt mn) (X : St p l e R s m args below meth c n0 T h k n) {x z : Int64} {y : Int32} (hd : decode bytes pc = .ok (.lshl, 1)) (hq : pc + 1 = q) (hz : x <<< (y &&& 0x3f).toInt64 = z) (r : Goes p e below G (T.setTop (mkF m q L (.long z :: st)))) : Goes p e below G (T.setTop (mkF m pc L (.int y :: .long x :: st))) := by
  obtain ⟨hx, -, -, hby, -⟩ := C
  obtain ⟨_, _, _, X, -⟩ := X
  subst hq hz
  exact go_st (fun t k => XS.lshl X.here hx rfl (hb hby hd) rfl k) r
theorem g_lshr (C : Cx p s m meth c Z own bytes ml rt mn) (X : St p l e R s m args below meth c n0 T h k n) {x z : Int64} {y : Int32} (hd : decode bytes pc = .ok (.lshr, 1)) (hq : pc + 1 = q) (hz : x >>> (y &&& 0x3f).toInt64 = z) (r : Goes p e below G (T.setTop (mkF m q L (.long z :: st)))) : Goes p e below G (T.setTop (mkF m pc L (.int y :: .long x :: st))) := by
  obtain ⟨hx, -, -, hby, -⟩ := C
  obtain ⟨_, _, _, X, -⟩ := X
  subst hq hz
  exact go_st (fun t k => XS.lshr X.here hx rfl (hb hby hd) rfl k) r
theorem g_lushr (C : Cx p s m meth c Z own bytes ml rt mn) (X : St p l e R s m args below meth c n0 T h k n) {x z : Int64} {y : Int32} (hd : decode bytes pc = .ok (.lushr, 1)) (hq : pc + 1 = q) (hz : (x.toUInt64 >>> (y &&& 0x3f).toInt64.toUInt64).toInt64 = z) (r : Goes p e below G (T.setTop (mkF m q L (.long z :: st)))) : Goes p e below G (T.setTop (mkF m pc L (.int y :: .long x :: st))) := by
  obtain ⟨hx, -, -, hby, -⟩ := C
  obtain ⟨_, _, _, X, -⟩ := X
  subst hq hz
  exact go_st (fun t k => XS.lushr X.here hx rfl (hb hby hd) rfl k) r
theorem g_ldiv (C : Cx p s m meth c Z own bytes ml rt mn) (X : St p l e R s m args below meth c n0 T h k n) {x y z : Int64} (hd : decode bytes pc = .ok (.ldiv, 1)) (hq : pc + 1 = q) (hy : y ≠ 0) (hz : x / y = z) (r : Goes p e below G (T.setTop (mkF m q L (.long z :: st)))) : Goes p e below G (T.setTop (mkF m pc L (.long y :: .long x :: st))) := by
  obtain ⟨hx, -, -, hby, -⟩ := C
  obtain ⟨_, _, _, X, -⟩ := X
  subst hq hz
  exact go_st (fun t k => XS.ldiv X.here hx rfl (hb hby hd) rfl hy k) r
theorem g_lrem (C : Cx p s m meth c Z own bytes ml rt mn) (X : St p l e R s m args below meth c n0 T h k n) {x y z : Int64} (hd : decode bytes pc = .ok (.lrem, 1)) (hq : pc + 1 = q) (hy : y ≠ 0) (hz : x % y = z) (r : Goes p e below G (T.setTop (mkF m q L (.long z :: st)))) : Goes p e below G (T.setTop (mkF m pc L (.long y :: .long x :: st))) := by
  obtain ⟨hx, -, -, hby, -⟩ := C
  obtain ⟨_, _, _, X, -⟩ := X
  subst hq hz
  have w := lrem_mod x y
  exact go_st (fun t k => XS.lrem X.here hx rfl (hb hby hd) rfl hy (by rw [w]; exact k)) r
theorem g_lneg (C : Cx p s m meth c Z own bytes ml rt mn) (X : St p l e R s m args below meth c n0 T h k n) {x z : Int64} (hd : decode bytes pc = .ok (.lneg, 1)) (hq : pc + 1 = q) (hz : -x = z) (r : Goes p e below G (T.setTop (mkF m q L (.long z :: st)))) : Goes p e below G (T.setTop (mkF m pc L (.long x :: st))) := by
  obtain ⟨hx, -, -, hby, -⟩ := C
  obtain ⟨_, _, _, X, -⟩ := X
  subst hq hz
  exact go_st (fun t k => XS.lneg X.here hx rfl (hb hby hd) rfl k) r
theorem g_i2l (C : Cx p s m meth c Z own bytes ml rt mn) (X : St p l e R s m args below meth c n0 T h k n) {x : Int32} {z : Int64} (hd : decode bytes pc = .ok (.i2l, 1)) (hq : pc + 1 = q) (hz : x.toInt64 = z) (r : Goes p e below G (T.setTop (mkF m q L (.long z :: st)))) : Goes p e below G (T.setTop (mkF m pc L (.int x :: st))) := by
  obtain ⟨hx, -, -, hby, -⟩ := C
  obtain ⟨_, _, _, X, -⟩ := X
  subst hq hz
  exact go_st (fun t k => XS.i2l X.here hx rfl (hb hby hd) rfl k) r
theorem g_l2i (C : Cx p s m meth c Z own bytes ml rt mn) (X : St p l e R s m args below meth c n0 T h k n) {x : Int64} {z : Int32} (hd : decode bytes pc = .ok (.l2i, 1)) (hq : pc + 1 = q) (hz : x.toInt32 = z) (r : Goes p e below G (T.setTop (mkF m q L (.int z :: st)))) : Goes p e below G (T.setTop (mkF m pc L (.long x :: st))) := by
  obtain ⟨hx, -, -, hby, -⟩ := C
  obtain ⟨_, _, _, X, -⟩ := X
  subst hq hz
  exact go_st (fun t k => XS.l2i X.here hx rfl (hb hby hd) rfl k) r
theorem g_i2b (C : Cx p s m meth c Z own bytes ml rt mn) (X : St p l e R s m args below meth c n0 T h k n) {x z : Int32} (hd : decode bytes pc = .ok (.i2b, 1)) (hq : pc + 1 = q) (hz : x.toInt8.toInt32 = z) (r : Goes p e below G (T.setTop (mkF m q L (.int z :: st)))) : Goes p e below G (T.setTop (mkF m pc L (.int x :: st))) := by
  obtain ⟨hx, -, -, hby, -⟩ := C
  obtain ⟨_, _, _, X, -⟩ := X
  subst hq hz
  exact go_st (fun t k => XS.i2b X.here hx rfl (hb hby hd) rfl k) r
theorem g_i2s (C : Cx p s m meth c Z own bytes ml rt mn) (X : St p l e R s m args below meth c n0 T h k n) {x z : Int32} (hd : decode bytes pc = .ok (.i2s, 1)) (hq : pc + 1 = q) (hz : x.toInt16.toInt32 = z) (r : Goes p e below G (T.setTop (mkF m q L (.int z :: st)))) : Goes p e below G (T.setTop (mkF m pc L (.int x :: st))) := by
  obtain ⟨hx, -, -, hby, -⟩ := C
  obtain ⟨_, _, _, X, -⟩ := X
  subst hq hz
  exact go_st (fun t k => XS.i2s X.here hx rfl (hb hby hd) rfl k) r
theorem g_i2c (C : Cx p s m meth c Z own bytes ml rt mn) (X : St p l e R s m args below meth c n0 T h k n) {x z : Int32} (hd : decode bytes pc = .ok (.i2c, 1)) (hq : pc + 1 = q) (hz : x.toUInt32.toUInt16.toUInt32.toInt32 = z) (r : Goes p e below G (T.setTop (mkF m q L (.int z :: st)))) : Goes p e below G (T.setTop (mkF m pc L (.int x :: st))) := by
  obtain ⟨hx, -, -, hby, -⟩ := C
  obtain ⟨_, _, _, X, -⟩ := X
  subst hq hz
  exact go_st (fun t k => XS.i2c X.here hx rfl (hb hby hd) rfl k) r
theorem g_lconst (C : Cx p s m meth c Z own bytes ml rt mn) (X : St p l e R s m args below meth c n0 T h k n) {i : Fin 2} {z : Int64} (hd : decode bytes pc = .ok (.lconst i, 1)) (hq : pc + 1 = q) (hz : (i.val.toInt64) = z) (r : Goes p e below G (T.setTop (mkF m q L (.long z :: st)))) : Goes p e below G (T.setTop (mkF m pc L (st))) := by
  obtain ⟨hx, -, -, hby, -⟩ := C
  obtain ⟨_, _, _, X, -⟩ := X
  subst hq hz
  exact go_st (fun t k => XS.lconst X.here hx rfl (hb hby hd) k) r
theorem own_lcW (x y : Int64) : (if x > y then (1 : Int32) else if x = y then 0 else -1) = lcmpW x y := rfl
theorem g_lcmp (C : Cx p s m meth c Z own bytes ml rt mn) (X : St p l e R s m args below meth c n0 T h k n) {x y : Int64} {z : Int32} (hd : decode bytes pc = .ok (.lcmp, 1)) (hq : pc + 1 = q) (hz : lcmpW x y = z) (r : Goes p e below G (T.setTop (mkF m q L (.int z :: st)))) : Goes p e below G (T.setTop (mkF m pc L (.long y :: .long x :: st))) := by
  obtain ⟨hx, -, -, hby, -⟩ := C
  obtain ⟨_, _, _, X, -⟩ := X
  subst hq hz
  exact go_st (fun t k => XS.lcmp X.here hx rfl (hb hby hd) rfl k) r
theorem g_dup (C : Cx p s m meth c Z own bytes ml rt mn) (X : St p l e R s m args below meth c n0 T h k n) {x : Value} (hd : decode bytes pc = .ok (.dup, 1)) (hq : pc + 1 = q) (hc : x.category = 1) (r : Goes p e below G (T.setTop (mkF m q L (x :: x :: st)))) : Goes p e below G (T.setTop (mkF m pc L (x :: st))) := by
  obtain ⟨hx, -, -, hby, -⟩ := C
  obtain ⟨_, _, _, X, -⟩ := X
  subst hq 
  exact go_st (fun t k => XS.dup X.here hx rfl (hb hby hd) rfl hc k) r
theorem g_pop (C : Cx p s m meth c Z own bytes ml rt mn) (X : St p l e R s m args below meth c n0 T h k n) {x : Value} (hd : decode bytes pc = .ok (.pop, 1)) (hq : pc + 1 = q) (hc : x.category = 1) (r : Goes p e below G (T.setTop (mkF m q L (st)))) : Goes p e below G (T.setTop (mkF m pc L (x :: st))) := by
  obtain ⟨hx, -, -, hby, -⟩ := C
  obtain ⟨_, _, _, X, -⟩ := X
  subst hq 
  exact go_st (fun t k => XS.pop X.here hx rfl (hb hby hd) rfl hc k) r
theorem g_dupX1 (C : Cx p s m meth c Z own bytes ml rt mn) (X : St p l e R s m args below meth c n0 T h k n) {x y : Value} (hd : decode bytes pc = .ok (.dup_x1, 1)) (hq : pc + 1 = q) (hc : x.category = 1) (hc' : y.category = 1) (r : Goes p e below G (T.setTop (mkF m q L (x :: y :: x :: st)))) : Goes p e below G (T.setTop (mkF m pc L (x :: y :: st))) := by
  obtain ⟨hx, -, -, hby, -⟩ := C
  obtain ⟨_, _, _, X, -⟩ := X
  subst hq 
  exact go_st (fun t k => XS.dupX1 X.here hx rfl (hb hby hd) rfl hc hc' k) r
theorem g_dup2 (C : Cx p s m meth c Z own bytes ml rt mn) (X : St p l e R s m args below meth c n0 T h k n) {x y : Value} (hd : decode bytes pc = .ok (.dup2, 1)) (hq : pc + 1 = q) (hc : x.category = 1) (hc' : y.category = 1) (r : Goes p e below G (T.setTop (mkF m q L (x :: y :: x :: y :: st)))) : Goes p e below G (T.setTop (mkF m pc L (x :: y :: st))) := by
  obtain ⟨hx, -, -, hby, -⟩ := C
  obtain ⟨_, _, _, X, -⟩ := X
  subst hq 
  exact go_st (fun t k => Jvm.Free.XT.dup2 X.here hx rfl (hb hby hd) rfl hc hc' k) r
theorem g_istoreN (C : Cx p s m meth c Z own bytes ml rt mn) (X : St p l e R s m args below meth c n0 T h k n) {j : Fin 4} {x : Int32} {L' : Array Slot} (hd : decode bytes pc = .ok (.istore_n j, 1)) (hq : pc + 1 = q) (hl : storeLocals L j.val (.int x) = some L') (r : Goes p e below G (T.setTop (mkF m q L' (st)))) : Goes p e below G (T.setTop (mkF m pc L (.int x :: st))) := by
  obtain ⟨hx, -, -, hby, -⟩ := C
  obtain ⟨_, _, _, X, -⟩ := X
  subst hq 
  exact go_st (fun t k => XS.istoreN X.here hx rfl (hb hby hd) rfl hl k) r
theorem g_istore (C : Cx p s m meth c Z own bytes ml rt mn) (X : St p l e R s m args below meth c n0 T h k n) {j : Nat} {x : Int32} {L' : Array Slot} (hd : decode bytes pc = .ok (.istore j, 2)) (hq : pc + 2 = q) (hl : storeLocals L j (.int x) = some L') (r : Goes p e below G (T.setTop (mkF m q L' (st)))) : Goes p e below G (T.setTop (mkF m pc L (.int x :: st))) := by
  obtain ⟨hx, -, -, hby, -⟩ := C
  obtain ⟨_, _, _, X, -⟩ := X
  subst hq 
  exact go_st (fun t k => XS.istore X.here hx rfl (hb hby hd) rfl hl k) r
theorem g_lstoreN (C : Cx p s m meth c Z own bytes ml rt mn) (X : St p l e R s m args below meth c n0 T h k n) {j : Fin 4} {x : Int64} {L' : Array Slot} (hd : decode bytes pc = .ok (.lstore_n j, 1)) (hq : pc + 1 = q) (hl : storeLocals L j.val (.long x) = some L') (r : Goes p e below G (T.setTop (mkF m q L' (st)))) : Goes p e below G (T.setTop (mkF m pc L (.long x :: st))) := by
  obtain ⟨hx, -, -, hby, -⟩ := C
  obtain ⟨_, _, _, X, -⟩ := X
  subst hq 
  exact go_st (fun t k => XS.lstoreN X.here hx rfl (hb hby hd) rfl hl k) r
theorem g_lstore (C : Cx p s m meth c Z own bytes ml rt mn) (X : St p l e R s m args below meth c n0 T h k n) {j : Nat} {x : Int64} {L' : Array Slot} (hd : decode bytes pc = .ok (.lstore j, 2)) (hq : pc + 2 = q) (hl : storeLocals L j (.long x) = some L') (r : Goes p e below G (T.setTop (mkF m q L' (st)))) : Goes p e below G (T.setTop (mkF m pc L (.long x :: st))) := by
  obtain ⟨hx, -, -, hby, -⟩ := C
  obtain ⟨_, _, _, X, -⟩ := X
  subst hq 
  exact go_st (fun t k => XS.lstore X.here hx rfl (hb hby hd) rfl hl k) r
theorem g_astoreN (C : Cx p s m meth c Z own bytes ml rt mn) (X : St p l e R s m args below meth c n0 T h k n) {j : Fin 4} {x : Value} {L' : Array Slot} (hd : decode bytes pc = .ok (.astore_n j, 1)) (hq : pc + 1 = q) (hv : x.isRef = true) (hl : storeLocals L j.val x = some L') (r : Goes p e below G (T.setTop (mkF m q L' (st)))) : Goes p e below G (T.setTop (mkF m pc L (x :: st))) := by
  obtain ⟨hx, -, -, hby, -⟩ := C
  obtain ⟨_, _, _, X, -⟩ := X
  subst hq 
  exact go_st (fun t k => XS.astoreN X.here hx rfl (hb hby hd) rfl hv hl k) r
theorem g_astore (C : Cx p s m meth c Z own bytes ml rt mn) (X : St p l e R s m args below meth c n0 T h k n) {j : Nat} {x : Value} {L' : Array Slot} (hd : decode bytes pc = .ok (.astore j, 2)) (hq : pc + 2 = q) (hv : x.isRef = true) (hl : storeLocals L j x = some L') (r : Goes p e below G (T.setTop (mkF m q L' (st)))) : Goes p e below G (T.setTop (mkF m pc L (x :: st))) := by
  obtain ⟨hx, -, -, hby, -⟩ := C
  obtain ⟨_, _, _, X, -⟩ := X
  subst hq 
  exact go_st (fun t k => XS.astore X.here hx rfl (hb hby hd) rfl hv hl k) r
theorem g_iinc (C : Cx p s m meth c Z own bytes ml rt mn) (X : St p l e R s m args below meth c n0 T h k n) {j : Nat} {i : Int} {x z : Int32} {L' : Array Slot} (hd : decode bytes pc = .ok (.iinc j i, 3)) (hq : pc + 3 = q) (hl : L[j]? = some (.val (.int x))) (hz : x + Int32.ofInt i = z) (hl' : storeLocals L j (.int z) = some L') (r : Goes p e below G (T.setTop (mkF m q L' (st)))) : Goes p e below G (T.setTop (mkF m pc L (st))) := by
  obtain ⟨hx, -, -, hby, -⟩ := C
  obtain ⟨_, _, _, X, -⟩ := X
  subst hq hz
  exact go_st (fun t k => XS.iinc X.here hx rfl (hb hby hd) hl hl' k) r
theorem g_goto (C : Cx p s m meth c Z own bytes ml rt mn) (X : St p l e R s m args below meth c n0 T h k n)  {o : Int} (hd : decode bytes pc = .ok (.goto o, 3)) (ho : 0 ≤ (pc : Int) + o) (hq : ((pc : Int) + o).toNat = q)  (r : Goes p e below G (T.setTop (mkF m q L st))) : Goes p e below G (T.setTop (mkF m pc L (st))) := by
  obtain ⟨hx, -, -, hby, -⟩ := C
  obtain ⟨_, _, _, X, -⟩ := X
  exact go_st (fun t k => XS.goto X.here hx rfl rfl (hb hby hd) ho hq k) r
theorem g_ifY (C : Cx p s m meth c Z own bytes ml rt mn) (X : St p l e R s m args below meth c n0 T h k n) {cd : ClassFile.Cond} {x : Int32} {o : Int} (hd : decode bytes pc = .ok (.ifCond cd o, 3)) (ho : 0 ≤ (pc : Int) + o) (hq : ((pc : Int) + o).toNat = q) (hc : if_icmp.holds cd x 0 = true) (r : Goes p e below G (T.setTop (mkF m q L st))) : Goes p e below G (T.setTop (mkF m pc L (.int x :: st))) := by
  obtain ⟨hx, -, -, hby, -⟩ := C
  obtain ⟨_, _, _, X, -⟩ := X
  exact go_st (fun t k => XS.ifYes X.here hx rfl rfl (hb hby hd) rfl ((if0 _ _).trans hc) ho hq k) r
theorem g_ifN (C : Cx p s m meth c Z own bytes ml rt mn) (X : St p l e R s m args below meth c n0 T h k n) {cd : ClassFile.Cond} {x : Int32} {o : Int} (hd : decode bytes pc = .ok (.ifCond cd o, 3)) (hq : pc + 3 = q) (hc : if_icmp.holds cd x 0 = false) (r : Goes p e below G (T.setTop (mkF m q L st))) : Goes p e below G (T.setTop (mkF m pc L (.int x :: st))) := by
  obtain ⟨hx, -, -, hby, -⟩ := C
  obtain ⟨_, _, _, X, -⟩ := X
  subst hq
  exact go_st (fun t k => XS.ifNo X.here hx rfl (hb hby hd) rfl ((if0 _ _).trans hc) k) r
theorem g_icY (C : Cx p s m meth c Z own bytes ml rt mn) (X : St p l e R s m args below meth c n0 T h k n) {cd : ClassFile.Cond} {x y : Int32} {o : Int} (hd : decode bytes pc = .ok (.if_icmp cd o, 3)) (ho : 0 ≤ (pc : Int) + o) (hq : ((pc : Int) + o).toNat = q) (hc : if_icmp.holds cd x y = true) (r : Goes p e below G (T.setTop (mkF m q L st))) : Goes p e below G (T.setTop (mkF m pc L (.int y :: .int x :: st))) := by
  obtain ⟨hx, -, -, hby, -⟩ := C
  obtain ⟨_, _, _, X, -⟩ := X
  exact go_st (fun t k => XS.icmpYes X.here hx rfl rfl (hb hby hd) rfl hc ho hq k) r
theorem g_icN (C : Cx p s m meth c Z own bytes ml rt mn) (X : St p l e R s m args below meth c n0 T h k n) {cd : ClassFile.Cond} {x y : Int32} {o : Int} (hd : decode bytes pc = .ok (.if_icmp cd o, 3)) (hq : pc + 3 = q) (hc : if_icmp.holds cd x y = false) (r : Goes p e below G (T.setTop (mkF m q L st))) : Goes p e below G (T.setTop (mkF m pc L (.int y :: .int x :: st))) := by
  obtain ⟨hx, -, -, hby, -⟩ := C
  obtain ⟨_, _, _, X, -⟩ := X
  subst hq
  exact go_st (fun t k => XS.icmpNo X.here hx rfl (hb hby hd) rfl hc k) r
theorem g_nulY (C : Cx p s m meth c Z own bytes ml rt mn) (X : St p l e R s m args below meth c n0 T h k n)  {o : Int} (hd : decode bytes pc = .ok (.ifnull o, 3)) (ho : 0 ≤ (pc : Int) + o) (hq : ((pc : Int) + o).toNat = q)  (r : Goes p e below G (T.setTop (mkF m q L st))) : Goes p e below G (T.setTop (mkF m pc L (.null :: st))) := by
  obtain ⟨hx, -, -, hby, -⟩ := C
  obtain ⟨_, _, _, X, -⟩ := X
  exact go_st (fun t k => XS.ifnullYes X.here hx rfl rfl (hb hby hd) rfl ho hq k) r
theorem g_nulN (C : Cx p s m meth c Z own bytes ml rt mn) (X : St p l e R s m args below meth c n0 T h k n) {b : Addr} {o : Int} (hd : decode bytes pc = .ok (.ifnull o, 3)) (hq : pc + 3 = q)  (r : Goes p e below G (T.setTop (mkF m q L st))) : Goes p e below G (T.setTop (mkF m pc L (.ref b :: st))) := by
  obtain ⟨hx, -, -, hby, -⟩ := C
  obtain ⟨_, _, _, X, -⟩ := X
  subst hq
  exact go_st (fun t k => XS.ifnullNo X.here hx rfl (hb hby hd) rfl k) r
theorem g_nonY (C : Cx p s m meth c Z own bytes ml rt mn) (X : St p l e R s m args below meth c n0 T h k n) {b : Addr} {o : Int} (hd : decode bytes pc = .ok (.ifnonnull o, 3)) (ho : 0 ≤ (pc : Int) + o) (hq : ((pc : Int) + o).toNat = q)  (r : Goes p e below G (T.setTop (mkF m q L st))) : Goes p e below G (T.setTop (mkF m pc L (.ref b :: st))) := by
  obtain ⟨hx, -, -, hby, -⟩ := C
  obtain ⟨_, _, _, X, -⟩ := X
  exact go_st (fun t k => XS.ifnonnullYes X.here hx rfl rfl (hb hby hd) rfl ho hq k) r
theorem g_nonN (C : Cx p s m meth c Z own bytes ml rt mn) (X : St p l e R s m args below meth c n0 T h k n)  {o : Int} (hd : decode bytes pc = .ok (.ifnonnull o, 3)) (hq : pc + 3 = q)  (r : Goes p e below G (T.setTop (mkF m q L st))) : Goes p e below G (T.setTop (mkF m pc L (.null :: st))) := by
  obtain ⟨hx, -, -, hby, -⟩ := C
  obtain ⟨_, _, _, X, -⟩ := X
  subst hq
  exact go_st (fun t k => XS.ifnonnullNo X.here hx rfl (hb hby hd) rfl k) r
theorem g_boolF (C : Cx p s m meth c Z own bytes ml rt mn) (X : St p l e R s m args below meth c n0 T h k n) {cd : ClassFile.Cond} {x : Int32} (hd : decode bytes pc = .ok (.ifCond cd 7, 3)) (hd1 : decode bytes (pc + 3) = .ok (.iconst 1, 1)) (hd2 : decode bytes (pc + 4) = .ok (.goto 4, 3)) (hd3 : decode bytes (pc + 7) = .ok (.iconst 0, 1)) (hq : pc + 8 = q) (r : ∀ b : Int32, (if_icmp.holds cd x 0 = true → b = 0) → (if_icmp.holds cd x 0 = false → b = 1) → Goes p e below G (T.setTop (mkF m q L (.int b :: st)))) : Goes p e below G (T.setTop (mkF m pc L (.int x :: st))) := by
  subst hq
  cases hc : if_icmp.holds cd x 0
  · refine g_ifN C X hd (q := pc + 3) rfl hc ?_
    refine g_iconst C X hd1 (q := pc + 4) rfl (z := 1) rfl ?_
    refine g_goto C X hd2 (by omega) (q := pc + 8) (by omega) ?_
    exact r 1 (fun z => by rw [hc] at z; cases z) (fun _ => rfl)
  · refine g_ifY C X hd (by omega) (q := pc + 7) (by omega) hc ?_
    refine g_iconst C X hd3 (q := pc + 8) rfl (z := 0) rfl ?_
    exact r 0 (fun _ => rfl) (fun z => by rw [hc] at z; cases z)
theorem g_selF (C : Cx p s m meth c Z own bytes ml rt mn) (X : St p l e R s m args below meth c n0 T h k n) {cd : ClassFile.Cond} {x v1 v2 : Int32} {j1 j2 : Fin 4} (hd : decode bytes pc = .ok (.ifCond cd 7, 3)) (hd1 : decode bytes (pc + 3) = .ok (.iload_n j1, 1)) (hd2 : decode bytes (pc + 4) = .ok (.goto 4, 3)) (hd3 : decode bytes (pc + 7) = .ok (.iload_n j2, 1)) (hq : pc + 8 = q) (l1 : L[j1.val]? = some (.val (.int v1))) (l2 : L[j2.val]? = some (.val (.int v2))) (r : ∀ b : Int32, (if_icmp.holds cd x 0 = true → b = v2) → (if_icmp.holds cd x 0 = false → b = v1) → Goes p e below G (T.setTop (mkF m q L (.int b :: st)))) : Goes p e below G (T.setTop (mkF m pc L (.int x :: st))) := by
  subst hq
  cases hc : if_icmp.holds cd x 0
  · refine g_ifN C X hd (q := pc + 3) rfl hc ?_
    refine g_iloadN C X hd1 (q := pc + 4) rfl l1 ?_
    refine g_goto C X hd2 (by omega) (q := pc + 8) (by omega) ?_
    exact r v1 (fun z => by rw [hc] at z; cases z) (fun _ => rfl)
  · refine g_ifY C X hd (by omega) (q := pc + 7) (by omega) hc ?_
    refine g_iloadN C X hd3 (q := pc + 8) rfl l2 ?_
    exact r v2 (fun _ => rfl) (fun z => by rw [hc] at z; cases z)
theorem g_boolC (C : Cx p s m meth c Z own bytes ml rt mn) (X : St p l e R s m args below meth c n0 T h k n) {cd : ClassFile.Cond} {x y : Int32} (hd : decode bytes pc = .ok (.if_icmp cd 7, 3)) (hd1 : decode bytes (pc + 3) = .ok (.iconst 1, 1)) (hd2 : decode bytes (pc + 4) = .ok (.goto 4, 3)) (hd3 : decode bytes (pc + 7) = .ok (.iconst 0, 1)) (hq : pc + 8 = q) (r : ∀ b : Int32, (if_icmp.holds cd x y = true → b = 0) → (if_icmp.holds cd x y = false → b = 1) → Goes p e below G (T.setTop (mkF m q L (.int b :: st)))) : Goes p e below G (T.setTop (mkF m pc L (.int y :: .int x :: st))) := by
  subst hq
  cases hc : if_icmp.holds cd x y
  · refine g_icN C X hd (q := pc + 3) rfl hc ?_
    refine g_iconst C X hd1 (q := pc + 4) rfl (z := 1) rfl ?_
    refine g_goto C X hd2 (by omega) (q := pc + 8) (by omega) ?_
    exact r 1 (fun z => by rw [hc] at z; cases z) (fun _ => rfl)
  · refine g_icY C X hd (by omega) (q := pc + 7) (by omega) hc ?_
    refine g_iconst C X hd3 (q := pc + 8) rfl (z := 0) rfl ?_
    exact r 0 (fun _ => rfl) (fun z => by rw [hc] at z; cases z)
theorem g_acmp (C : Cx p s m meth c Z own bytes ml rt mn) (X : St p l e R s m args below meth c n0 T h k n) {cd : ACond} {x y : Value} {o : Int} {same : Bool} (hd : decode bytes pc = .ok (.if_acmp cd o, 3)) (h1 : x.isRef = true) (h2 : y.isRef = true) (hs : decide (x = y) = same) (ho : 0 ≤ (pc : Int) + o) (hq : q = if acV cd same = true then ((pc : Int) + o).toNat else pc + 3) (r : Goes p e below G (T.setTop (mkF m q L st))) : Goes p e below G (T.setTop (mkF m pc L (y :: x :: st))) := by
  obtain ⟨hx, -, -, hby, -⟩ := C
  obtain ⟨_, _, _, X, -⟩ := X
  exact go_st (fun t k => Jvm.RoadKit.acmp (g := mkF m pc L (y :: x :: st)) X hx rfl h1 h2 rfl (hb hby hd) rfl hs ho hq k) r
theorem g_lsw (C : Cx p s m meth c Z own bytes ml rt mn) (X : St p l e R s m args below meth c n0 T h k n) {d o : Int} {ps : Array (Int × Int)} {i : Int32} {len : Nat} (hd : decode bytes pc = .ok (.lookupswitch d ps, len)) (hinc : (ps.toList.zip (ps.toList.drop 1)).all (fun (a, next) => a.1 < next.1) = true) (hoff : lookupswitch.offset ps.toList d i.toInt = o) (ho : 0 ≤ (pc : Int) + o) (hq : ((pc : Int) + o).toNat = q) (r : Goes p e below G (T.setTop (mkF m q L st))) : Goes p e below G (T.setTop (mkF m pc L (.int i :: st))) := by
  obtain ⟨hx, -, -, hby, -⟩ := C
  obtain ⟨_, _, _, X, -⟩ := X
  subst hq
  refine go_st (fun t k => ?_) r
  have hd' := hb hby hd
  show Steps p.tables e below (T.setTop { method := m, pc := pc, locals := L, stack := .int i :: st, locked := none }) _
  jvm_step X.here [X.here.top, hx, hd', lookupswitch.wp_chain, hoff, ho]
  refine ⟨?_, k⟩
  intro a b a1 b1 hm
  simpa using List.all_eq_true.mp hinc ((a, b), a1, b1) (by simpa using hm)
theorem g_tswI (C : Cx p s m meth c Z own bytes ml rt mn) (X : St p l e R s m args below meth c n0 T h k n) {d lo hi o : Int} {offs : Array Int} {i : Int32} {len : Nat} (hd : decode bytes pc = .ok (.tableswitch d lo hi offs, len)) (hin : ¬ (i.toInt < lo ∨ i.toInt > hi)) (hoff : offs[(i.toInt - lo).toNat]? = some o) (ho : 0 ≤ (pc : Int) + o) (hq : ((pc : Int) + o).toNat = q) (r : Goes p e below G (T.setTop (mkF m q L st))) : Goes p e below G (T.setTop (mkF m pc L (.int i :: st))) := by
  obtain ⟨hx, -, -, hby, -⟩ := C
  obtain ⟨_, _, _, X, -⟩ := X
  exact go_st (fun t k => XS.tswIn X.here hx rfl rfl (hb hby hd) rfl hin hoff ho hq k) r
theorem g_tswO (C : Cx p s m meth c Z own bytes ml rt mn) (X : St p l e R s m args below meth c n0 T h k n) {d lo hi : Int} {offs : Array Int} {i : Int32} {len : Nat} (hd : decode bytes pc = .ok (.tableswitch d lo hi offs, len)) (hin : i.toInt < lo ∨ i.toInt > hi) (ho : 0 ≤ (pc : Int) + d) (hq : ((pc : Int) + d).toNat = q) (r : Goes p e below G (T.setTop (mkF m q L st))) : Goes p e below G (T.setTop (mkF m pc L (.int i :: st))) := by
  obtain ⟨hx, -, -, hby, -⟩ := C
  obtain ⟨_, _, _, X, -⟩ := X
  exact go_st (fun t k => XS.tswOut X.here hx rfl rfl (hb hby hd) rfl hin ho hq k) r
theorem g_ldcI (C : Cx p s m meth c Z own bytes ml rt mn) (X : St p l e R s m args below meth c n0 T h k n) {i : Nat} {v : Int32} (w : (Cond.constant own i v).before a0 Z = true) (hd : decode bytes pc = .ok (.ldc i, 2)) (hq : pc + 2 = q) (r : Goes p e below G (T.setTop (mkF m q L (.int v :: st)))) : Goes p e below G (T.setTop (mkF m pc L st)) := by
  obtain ⟨hx, hZ, hown, hby, -⟩ := C
  obtain ⟨_, _, _, X, -⟩ := X
  subst hq
  exact go_st (fun t k => X.ldcInt hx hown (mvT hZ w) (g := mkF m pc L st) rfl (hb hby hd) t k) r
theorem g_ldcJ (C : Cx p s m meth c Z own bytes ml rt mn) (X : St p l e R s m args below meth c n0 T h k n) {i : Nat} {v : Int64} (w : (Cond.constantLong own i v).before a0 Z = true) (hd : decode bytes pc = .ok (.ldc2_w i, 3)) (hq : pc + 3 = q) (r : Goes p e below G (T.setTop (mkF m q L (.long v :: st)))) : Goes p e below G (T.setTop (mkF m pc L st)) := by
  obtain ⟨hx, hZ, hown, hby, -⟩ := C
  obtain ⟨_, _, _, X, -⟩ := X
  subst hq
  exact go_st (fun t k => X.ldc2Long hx hown (mvT hZ w) (g := mkF m pc L st) rfl (hb hby hd) t k) r
theorem own_end (C : Cx p s m meth c Z own bytes ml rt mn) (X : St p l e R s m args below meth c n0 T h k n) {Q : Option Value → Heap → Prop} {K N : Nat} {S : State} {v : Option Value} (hv : rt = none → v = none) (hk : k ≤ K) (hn : n ≤ N) (hQ : Q v h)
    (f : ∀ locs cells slots fs, Stand p l e R s m args below meth c T locs cells slots → (∀ (f : JFrame) (acts : List Action), f.method = m → f.locked = none → f.entered = [] → (doReturn e (T.setTop f) acts v).1 = T.setFrames fs) → Steps p.tables e below S (T.setFrames fs)) : Goes p e below (FinN Q s n0 K N) S := by
  obtain ⟨hx, -, -, hby, -, hret, hlk, -⟩ := C
  obtain ⟨locs, cells, slots, X, hF, rfl, h1, h2⟩ := X
  obtain ⟨fs, hr, hrun, hended, hW, hsame⟩ := X.leave (v := v) (fun h => hv (hret.symm.trans h)) hlk
  exact ⟨_, _, f _ _ _ fs X hr, hrun, hended, _, _, rfl, ⟨hF, hQ⟩, ⟨_, rfl⟩, hW, hsame.mono (Nat.le_trans h1 hk) (Nat.le_trans h2 hn)⟩
theorem g_retI (C : Cx p s m meth c Z own bytes ml (some .int) mn) (X : St p l e R s m args below meth c n0 T h k n) {Q : Option Value → Heap → Prop} {K N : Nat} {z : Int32} (hd : decode bytes pc = .ok (.ireturn, 1)) (hk : k ≤ K) (hn : n ≤ N) (hQ : Q (some (.int z)) h) : Goes p e below (FinN Q s n0 K N) (T.setTop (mkF m pc L (.int z :: st))) := by
  refine own_end C X (by simp) hk hn hQ fun locs cells slots fs X hr => ?_
  obtain ⟨hx, -, -, hby, -, hret, hlk, -⟩ := C
  exact retOut X hx hret rfl (Or.inl ⟨rfl, Or.inl rfl, _, rfl⟩) (hb hby hd) hr
theorem g_retN {t : FieldType} (C : Cx p s m meth c Z own bytes ml (some t) mn) (X : St p l e R s m args below meth c n0 T h k n) {Q : Option Value → Heap → Prop} {K N : Nat} {z z' : Int32} (ht : t = .boolean ∨ t = .byte ∨ t = .char ∨ t = .short) (hz : nar t z = z') (hd : decode bytes pc = .ok (.ireturn, 1)) (hk : k ≤ K) (hn : n ≤ N) (hQ : Q (some (.int z')) h) : Goes p e below (FinN Q s n0 K N) (T.setTop (mkF m pc L (.int z :: st))) := by
  subst hz
  refine own_end C X (by simp) hk hn hQ fun locs cells slots fs X hr => ?_
  obtain ⟨hx, -, -, hby, -, hret, hlk, -⟩ := C
  exact retN X hx hret ht (hb hby hd) hr
theorem g_retA {t : FieldType} (C : Cx p s m meth c Z own bytes ml (some t) mn) (X : St p l e R s m args below meth c n0 T h k n) {Q : Option Value → Heap → Prop} {K N : Nat} {v : Value} (ht : t.isReference = true) (hv : v.isRef = true) (hd : decode bytes pc = .ok (.areturn, 1)) (hk : k ≤ K) (hn : n ≤ N) (hQ : Q (some v) h) : Goes p e below (FinN Q s n0 K N) (T.setTop (mkF m pc L (v :: st))) := by
  refine own_end C X (by simp) hk hn hQ fun locs cells slots fs X hr => ?_
  obtain ⟨hx, -, -, hby, -, hret, hlk, -⟩ := C
  have hn' : narrow t v = v := by rcases ref_cases hv with rfl | ⟨b, rfl⟩ <;> cases t <;> first | rfl | (cases ht)
  exact retOut X hx hret hn' (Or.inr (Or.inr (Or.inr (Or.inr ⟨rfl, ht, hv⟩)))) (hb hby hd) hr
theorem g_retJ (C : Cx p s m meth c Z own bytes ml (some .long) mn) (X : St p l e R s m args below meth c n0 T h k n) {Q : Option Value → Heap → Prop} {K N : Nat} {z : Int64} (hd : decode bytes pc = .ok (.lreturn, 1)) (hk : k ≤ K) (hn : n ≤ N) (hQ : Q (some (.long z)) h) : Goes p e below (FinN Q s n0 K N) (T.setTop (mkF m pc L (.long z :: st))) := by
  refine own_end C X (by simp) hk hn hQ fun locs cells slots fs X hr => ?_
  obtain ⟨hx, -, -, hby, -, hret, hlk, -⟩ := C
  exact retOut X hx hret rfl (Or.inr (Or.inl ⟨rfl, rfl, _, rfl⟩)) (hb hby hd) hr
theorem g_retV (C : Cx p s m meth c Z own bytes ml none mn) (X : St p l e R s m args below meth c n0 T h k n) {Q : Option Value → Heap → Prop} {K N : Nat} (hd : decode bytes pc = .ok (.return_, 1)) (hk : k ≤ K) (hn : n ≤ N) (hQ : Q none h) : Goes p e below (FinN Q s n0 K N) (T.setTop (mkF m pc L [])) := by
  refine own_end C X (fun _ => rfl) hk hn hQ fun locs cells slots fs X hr => ?_
  obtain ⟨hx, -, -, hby, -, hret, hlk, -⟩ := C
  exact X.returnOut hx hret (hb hby hd) hr
theorem g_dloadN (C : Cx p s m meth c Z own bytes ml rt mn) (X : St p l e R s m args below meth c n0 T h k n) {j : Fin 4} {v : UInt64} (hd : decode bytes pc = .ok (.dload_n j, 1)) (hq : pc + 1 = q) (hl : L[j.val]? = some (.val (.double v))) (r : Goes p e below G (T.setTop (mkF m q L (.double v :: st)))) : Goes p e below G (T.setTop (mkF m pc L (st))) := by
  obtain ⟨hx, -, -, hby, -⟩ := C
  obtain ⟨_, _, _, X, -⟩ := X
  subst hq 
  exact go_st (fun t k => XS.dloadN X.here hx rfl (hb hby hd) hl k) r
theorem g_dload (C : Cx p s m meth c Z own bytes ml rt mn) (X : St p l e R s m args below meth c n0 T h k n) {j : Nat} {v : UInt64} (hd : decode bytes pc = .ok (.dload j, 2)) (hq : pc + 2 = q) (hl : L[j]? = some (.val (.double v))) (r : Goes p e below G (T.setTop (mkF m q L (.double v :: st)))) : Goes p e below G (T.setTop (mkF m pc L (st))) := by
  obtain ⟨hx, -, -, hby, -⟩ := C
  obtain ⟨_, _, _, X, -⟩ := X
  subst hq 
  exact go_st (fun t k => XS.dload X.here hx rfl (hb hby hd) hl k) r
theorem g_dstoreN (C : Cx p s m meth c Z own bytes ml rt mn) (X : St p l e R s m args below meth c n0 T h k n) {j : Fin 4} {x : UInt64} {L' : Array Slot} (hd : decode bytes pc = .ok (.dstore_n j, 1)) (hq : pc + 1 = q) (hl : storeLocals L j.val (.double x) = some L') (r : Goes p e below G (T.setTop (mkF m q L' (st)))) : Goes p e below G (T.setTop (mkF m pc L (.double x :: st))) := by
  obtain ⟨hx, -, -, hby, -⟩ := C
  obtain ⟨_, _, _, X, -⟩ := X
  subst hq 
  exact go_st (fun t k => XS.dstoreN X.here hx rfl (hb hby hd) rfl hl k) r
theorem g_dstore (C : Cx p s m meth c Z own bytes ml rt mn) (X : St p l e R s m args below meth c n0 T h k n) {j : Nat} {x : UInt64} {L' : Array Slot} (hd : decode bytes pc = .ok (.dstore j, 2)) (hq : pc + 2 = q) (hl : storeLocals L j (.double x) = some L') (r : Goes p e below G (T.setTop (mkF m q L' (st)))) : Goes p e below G (T.setTop (mkF m pc L (.double x :: st))) := by
  obtain ⟨hx, -, -, hby, -⟩ := C
  obtain ⟨_, _, _, X, -⟩ := X
  subst hq 
  exact go_st (fun t k => XS.dstore X.here hx rfl (hb hby hd) rfl hl k) r
theorem g_i2d (C : Cx p s m meth c Z own bytes ml rt mn) (X : St p l e R s m args below meth c n0 T h k n) {x : Int32} {z : UInt64} (hd : decode bytes pc = .ok (.i2d, 1)) (hq : pc + 1 = q) (hz : FP.i2d x = z) (r : Goes p e below G (T.setTop (mkF m q L (.double z :: st)))) : Goes p e below G (T.setTop (mkF m pc L (.int x :: st))) := by
  obtain ⟨hx, -, -, hby, -⟩ := C
  obtain ⟨_, _, _, X, -⟩ := X
  subst hq 
  exact go_st (fun t k => XS.i2dS X.here hx rfl (hb hby hd) rfl hz k) r
theorem g_dcmp (C : Cx p s m meth c Z own bytes ml rt mn) (X : St p l e R s m args below meth c n0 T h k n) {o : CmpOp} {x y : UInt64} {z : Int32} (hd : decode bytes pc = .ok (.dcmp o, 1)) (hq : pc + 1 = q) (hz : cmpValue (FP.dcmp x y) o = z) (r : Goes p e below G (T.setTop (mkF m q L (.int z :: st)))) : Goes p e below G (T.setTop (mkF m pc L (.double y :: .double x :: st))) := by
  obtain ⟨hx, -, -, hby, -⟩ := C
  obtain ⟨_, _, _, X, -⟩ := X
  subst hq 
  exact go_st (fun t k => XS.dcmpS X.here hx rfl (hb hby hd) rfl hz k) r
theorem g_pop2 (C : Cx p s m meth c Z own bytes ml rt mn) (X : St p l e R s m args below meth c n0 T h k n) {x : Value} (hd : decode bytes pc = .ok (.pop2, 1)) (hq : pc + 1 = q) (hc : x.category = 2) (r : Goes p e below G (T.setTop (mkF m q L st))) : Goes p e below G (T.setTop (mkF m pc L (x :: st))) := by
  obtain ⟨hx, -, -, hby, -⟩ := C
  obtain ⟨_, _, _, X, -⟩ := X
  subst hq
  refine go_st (fun t k => ?_) r
  have hd' := hb hby hd
  show Steps p.tables e below (T.setTop { method := m, pc := pc, locals := L, stack := x :: st, locked := none }) _
  jvm_step X.here [X.here.top, hx, hd', hc]
  exact k
theorem g_dmul (C : Cx p s m meth c Z own bytes ml rt mn) (X : St p l e R s m args below meth c n0 T h k n) {x y z : UInt64} (hd : decode bytes pc = .ok (.dmul, 1)) (hq : pc + 1 = q) (hn : Jvm.Free.Fl.NoNaN64 (FP.dmul x y)) (hz : FP.dmul x y = z) (r : Goes p e below G (T.setTop (mkF m q L (.double z :: st)))) : Goes p e below G (T.setTop (mkF m pc L (.double y :: .double x :: st))) := by
  obtain ⟨hx, -, -, hby, -⟩ := C
  obtain ⟨_, _, _, X, -⟩ := X
  subst hq 
  exact go_st (fun t k => XS.dmulS X.here hx rfl (hb hby hd) rfl hn hz k) r
theorem g_ddiv (C : Cx p s m meth c Z own bytes ml rt mn) (X : St p l e R s m args below meth c n0 T h k n) {x y z : UInt64} (hd : decode bytes pc = .ok (.ddiv, 1)) (hq : pc + 1 = q) (hn : Jvm.Free.Fl.NoNaN64 (FP.ddiv x y)) (hz : FP.ddiv x y = z) (r : Goes p e below G (T.setTop (mkF m q L (.double z :: st)))) : Goes p e below G (T.setTop (mkF m pc L (.double y :: .double x :: st))) := by
  obtain ⟨hx, -, -, hby, -⟩ := C
  obtain ⟨_, _, _, X, -⟩ := X
  subst hq 
  exact go_st (fun t k => XS.ddivS X.here hx rfl (hb hby hd) rfl hn hz k) r
theorem g_ldcD (C : Cx p s m meth c Z own bytes ml rt mn) (X : St p l e R s m args below meth c n0 T h k n) {i : Nat} {v : UInt64} (w : (Cond.constantDouble own i v).before a0 Z = true) (hd : decode bytes pc = .ok (.ldc2_w i, 3)) (hq : pc + 3 = q) (r : Goes p e below G (T.setTop (mkF m q L (.double v :: st)))) : Goes p e below G (T.setTop (mkF m pc L st)) := by
  obtain ⟨hx, hZ, hown, hby, -⟩ := C
  obtain ⟨_, _, _, X, -⟩ := X
  subst hq
  exact go_st (fun t k => X.ldc2DoubleC hx hown (mvT hZ w) (g := mkF m pc L st) rfl (hb hby hd) t k) r
theorem g_dconst0 (C : Cx p s m meth c Z own bytes ml rt mn) (X : St p l e R s m args below meth c n0 T h k n) {z : UInt64} (hd : decode bytes pc = .ok (.dconst 0, 1)) (hq : pc + 1 = q) (hz : FP.dconst0 = z) (r : Goes p e below G (T.setTop (mkF m q L (.double z :: st)))) : Goes p e below G (T.setTop (mkF m pc L (st))) := by
  obtain ⟨hx, -, -, hby, -⟩ := C
  obtain ⟨_, _, _, X, -⟩ := X
  subst hq 
  exact go_st (fun t k => XS.dconst0 X.here hx rfl (hb hby hd) hz k) r
theorem g_dconst1 (C : Cx p s m meth c Z own bytes ml rt mn) (X : St p l e R s m args below meth c n0 T h k n) {z : UInt64} (hd : decode bytes pc = .ok (.dconst 1, 1)) (hq : pc + 1 = q) (hz : FP.dconst1 = z) (r : Goes p e below G (T.setTop (mkF m q L (.double z :: st)))) : Goes p e below G (T.setTop (mkF m pc L (st))) := by
  obtain ⟨hx, -, -, hby, -⟩ := C
  obtain ⟨_, _, _, X, -⟩ := X
  subst hq 
  exact go_st (fun t k => XS.dconst1 X.here hx rfl (hb hby hd) hz k) r
theorem g_retD (C : Cx p s m meth c Z own bytes ml (some .double) mn) (X : St p l e R s m args below meth c n0 T h k n) {Q : Option Value → Heap → Prop} {K N : Nat} {z : UInt64} (hd : decode bytes pc = .ok (.dreturn, 1)) (hk : k ≤ K) (hn : n ≤ N) (hQ : Q (some (.double z)) h) : Goes p e below (FinN Q s n0 K N) (T.setTop (mkF m pc L (.double z :: st))) := by
  refine own_end C X (by simp) hk hn hQ fun locs cells slots fs X hr => ?_
  obtain ⟨hx, -, -, hby, -, hret, hlk, -⟩ := C
  exact retOut X hx hret rfl (Or.inr (Or.inr (Or.inl ⟨rfl, rfl, _, rfl⟩))) (hb hby hd) hr
theorem g_getS (C : Cx p s m meth c Z own bytes ml rt mn) (X : St p l e R s m args below meth c n0 T h k n) {R0 O f d host : String} {i : Nat} {v : Value} (w : (Cond.fieldLink own i R0 f d).before a0 Z = true ∨ (Cond.fieldLinkNest own i R0 f d host).before a0 Z = true) (via : Via Z R0 O f d) (F : Sta Z h O f d v) (hd : decode bytes pc = .ok (.getstatic i, 3)) (hq : pc + 3 = q) (r : ∀ T', St p l e R s m args below meth c n0 T' h k n → Goes p e below G (T'.setTop (mkF m q L (v :: st)))) : Goes p e below G (T.setTop (mkF m pc L st)) := by
  obtain ⟨hx, hZ, hown, hby, -⟩ := C
  obtain ⟨_, _, _, X, hF, eT, h1, h2⟩ := X
  subst hq
  obtain ⟨T', X', e', st'⟩ := getS2 X hx hZ hown w via eT F (g := mkF m pc L st) rfl (hb hby hd)
  exact go_st st' (r T' ⟨_, _, _, X', hF, e', h1, h2⟩)
theorem g_getF (C : Cx p s m meth c Z own bytes ml rt mn) (X : St p l e R s m args below meth c n0 T h k n) {R0 O f d host : String} {i : Nat} {a : Addr} {v : Value} (w : (Cond.fieldLink own i R0 f d).before a0 Z = true ∨ (Cond.fieldLinkNest own i R0 f d host).before a0 Z = true) (via : Via Z R0 O f d) (F : Fld Z h a O f d v) (hd : decode bytes pc = .ok (.getfield i, 3)) (hq : pc + 3 = q) (r : ∀ T', St p l e R s m args below meth c n0 T' h k n → Goes p e below G (T'.setTop (mkF m q L (v :: st)))) : Goes p e below G (T.setTop (mkF m pc L (.ref a :: st))) := by
  obtain ⟨hx, hZ, hown, hby, -⟩ := C
  obtain ⟨_, _, _, X, hF, eT, h1, h2⟩ := X
  subst hq
  obtain ⟨T', X', e', st'⟩ := getF X hx hZ hown w via eT F (g := mkF m pc L (.ref a :: st)) rfl rfl (hb hby hd)
  exact go_st st' (r T' ⟨_, _, _, X', hF, e', h1, h2⟩)
theorem g_putF (C : Cx p s m meth c Z own bytes ml rt mn) (X : St p l e R s m args below meth c n0 T h k n) {R0 O f d host K : String} {i kk : Nat} {ty : FieldType} {a : Addr} {v old : Value} (w : (Cond.fieldLink own i R0 f d).before a0 Z = true ∨ (Cond.fieldLinkNest own i R0 f d host).before a0 Z = true) (via : Via Z R0 O f d) (F : Fld Z h a O f d old) (E : Exa Z h a K) (Ly : (Cond.lays K O f d).before a0 Z = true ∨ ((Cond.laysFinal K O f d).before a0 Z = true ∧ own = O ∧ mn = "<init>")) (wi : (Cond.instantiable K kk).before a0 Z = true)
    (hty : parseFieldDescriptor d = some ty) (hnn : narrow ty v = v) (hff : fits ty v = true) (hd : decode bytes pc = .ok (.putfield i, 3)) (hq : pc + 3 = q) (ha : n0 ≤ a) (r : ∀ T' h', St p l e R s m args below meth c n0 T' h' k n → Wr h h' a (Jvm.RoadKit.slotOf Z O f d) v → Goes p e below G (T'.setTop (mkF m q L st))) : Goes p e below G (T.setTop (mkF m pc L (v :: .ref a :: st))) := by
  obtain ⟨hx, hZ, hown, hby, -, -, -, hnm⟩ := C
  obtain ⟨_, _, _, X, hF, eT, h1, h2⟩ := X
  subst hq
  obtain ⟨T', h', X', e', W', st'⟩ := putF X hx hZ hown w via eT F E (Ly.imp id fun z => ⟨z.1, z.2.1, hnm.trans z.2.2⟩) wi hty hnn hff (g := mkF m pc L (v :: .ref a :: st)) rfl rfl (hb hby hd)
  exact go_st st' (r T' h' ⟨_, _, _, X', Fr.snoc X' hF ha, e', h1, h2⟩ W')
theorem g_putFN (C : Cx p s m meth c Z own bytes ml rt mn) (X : St p l e R s m args below meth c n0 T h k n) {R0 O f d K : String} {i kk : Nat} {ty : FieldType} {a : Addr} {v v' old : Value} (w : (Cond.fieldLink own i R0 f d).before a0 Z = true) (via : Via Z R0 O f d) (F : Fld Z h a O f d old) (E : Exa Z h a K) (Ly : (Cond.lays K O f d).before a0 Z = true ∨ ((Cond.laysFinal K O f d).before a0 Z = true ∧ own = O ∧ mn = "<init>")) (wi : (Cond.instantiable K kk).before a0 Z = true)
    (hty : parseFieldDescriptor d = some ty) (hnn : narrow ty v = v') (hff : fits ty v' = true) (hd : decode bytes pc = .ok (.putfield i, 3)) (hq : pc + 3 = q) (ha : n0 ≤ a) (r : ∀ T' h', St p l e R s m args below meth c n0 T' h' k n → Wr h h' a (Jvm.RoadKit.slotOf Z O f d) v' → Goes p e below G (T'.setTop (mkF m q L st))) : Goes p e below G (T.setTop (mkF m pc L (v :: .ref a :: st))) := by
  obtain ⟨hx, hZ, hown, hby, -, -, -, hnm⟩ := C
  obtain ⟨_, _, _, X, hF, eT, h1, h2⟩ := X
  subst hq
  obtain ⟨T', h', X', e', W', st'⟩ := putFN X hx hZ hown w via eT F E (Ly.imp id fun z => ⟨z.1, z.2.1, hnm.trans z.2.2⟩) wi hty hnn hff (g := mkF m pc L (v :: .ref a :: st)) rfl rfl (hb hby hd)
  exact go_st st' (r T' h' ⟨_, _, _, X', Fr.snoc X' hF ha, e', h1, h2⟩ W')
theorem g_new (C : Cx p s m meth c Z own bytes ml rt mn) (X : St p l e R s m args below meth c n0 T h k n) {K : String} {i z k' n' : Nat} (w : (Cond.classLink own i K).before a0 Z = true) (wi : (Cond.instantiable K z).before a0 Z = true) (wz : (Cond.initialized K).before a0 Z = true) (hd : decode bytes pc = .ok (.new i, 3)) (hq : pc + 3 = q) (hk : k + 1 = k') (hn : n + z = n') (hkR : k' ≤ R.cells) (hnR : n' ≤ R.slots)
    (r : ∀ T' h' a, a = h.size → St p l e R s m args below meth c n0 T' h' k' n' → Ext h h' → Exa Z h' a K → (∀ {O nm d : String} {ty : FieldType}, Laid Z a0 K O nm d → parseFieldDescriptor d = some ty → Fld Z h' a O nm d (defaultValue ty)) → Goes p e below G (T'.setTop (mkF m q L (.ref a :: st)))) : Goes p e below G (T.setTop (mkF m pc L st)) := by
  obtain ⟨hx, hZ, hown, hby, -⟩ := C
  obtain ⟨_, _, _, X, hF, eT, h1, h2⟩ := X
  subst hq hk hn
  obtain ⟨T', h', X', e', E', A', D', -, st'⟩ := newO X hx hZ hown w wi wz eT (g := mkF m pc L st) rfl (hb hby hd) (Nat.le_trans (Nat.add_le_add_right h1 1) hkR) (Nat.le_trans (Nat.add_le_add_right h2 z) hnR)
  exact go_st st' (r T' h' _ rfl ⟨_, _, _, X', hF, e', Nat.add_le_add_right h1 1, Nat.add_le_add_right h2 z⟩ E' A' D')
theorem g_newP (C : Cx p s m meth c Z own bytes ml rt mn) (X : St p l e R s m args below meth c n0 T h k n) {aty : ArrayType} {ty : FieldType} {z : Int32} {cap k' n' : Nat} (w : (Cond.arrayClass ty).before a0 Z = true) (hty : newarray.typeOf aty = ty) (hd : decode bytes pc = .ok (.newarray aty, 2)) (hq : pc + 2 = q) (hz : ¬ z < 0) (hcap : z.toNatClampNeg ≤ cap) (hcb : cap * 8 ≤ 536870912) (hk : k + 1 = k') (hn : n + cap = n') (hkR : k' ≤ R.cells) (hnR : n' ≤ R.slots)
    (r : ∀ T' h' cA a, a = h.size → St p l e R s m args below meth c n0 T' h' k' n' → Ext h h' → Arv Z h' a cA ty z [] (defaultValue ty) → Goes p e below G (T'.setTop (mkF m q L (.ref a :: st)))) : Goes p e below G (T.setTop (mkF m pc L (.int z :: st))) := by
  obtain ⟨hx, hZ, hown, hby, -⟩ := C
  obtain ⟨_, _, _, X, hF, eT, h1, h2⟩ := X
  subst hq hk hn hty
  obtain ⟨T', h', cA, X', e', E', A', st'⟩ := newP X hx hZ w eT (g := mkF m pc L (.int z :: st)) rfl (hb hby hd) rfl hz (cap := cap) hcap hcb (Nat.le_trans (Nat.add_le_add_right h1 1) hkR) (Nat.le_trans (Nat.add_le_add_right h2 cap) hnR)
  exact go_st st' (r T' h' cA _ rfl ⟨_, _, _, X', hF, e', Nat.add_le_add_right h1 1, Nat.add_le_add_right h2 cap⟩ E' (Arv.new A' hz))
theorem g_initO (C : Cx p s m meth c Z own bytes ml rt mn) (X : St p l e R s m args below meth c n0 T h k n) {i : Nat} {a : Addr} (w1 : (Cond.methodLink own i Lib.objectInit).before a0 Z = true) (w2 : (Cond.instanceMethod Lib.objectInit).before a0 Z = true) (w3 : (Cond.code Lib.objectInit ⟨#[0xb1]⟩ 1 none).before a0 Z = true) (hsz : L.size = ml) (hd : decode bytes pc = .ok (.invokespecial i, 3)) (hq : pc + 3 = q) (hf : 1 ≤ R.frames) (hW : (st.map fun v => v.category).sum + 12 ≤ R.locals)
    (r : ∀ T', St p l e R s m args below meth c n0 T' h k n → Goes p e below G (T'.setTop (mkF m q L st))) : Goes p e below G (T.setTop (mkF m pc L (.ref a :: st))) := by
  obtain ⟨hx, hZ, hown, hby, hml, -⟩ := C
  obtain ⟨_, _, _, X, hF, eT, h1, h2⟩ := X
  subst hq
  obtain ⟨T', X', e', st'⟩ := initO X hx hZ hown w1 w2 w3 eT (g := mkF m pc L (.ref a :: st)) rfl (hsz.trans hml.symm) rfl (hb hby hd) hf (W := (st.map fun v => v.category).sum) (by show 2 * 0 + _ ≤ _; omega) hW
  exact go_st st' (r T' ⟨_, _, _, X', hF, e', h1, h2⟩)
theorem g_iastore (C : Cx p s m meth c Z own bytes ml rt mn) (X : St p l e R s m args below meth c n0 T h k n) {a : Addr} {cA : ClassId} {z j : Int32} {vs vs' : List Value} {dv : Value} {i : Nat} {v : Int32} (V : Arv Z h a cA .int z vs dv) (hj : ¬ j < 0 ∧ j < z) (hi : j.toNatClampNeg = i) (hlt : i < vs.length) (hvs : vs.set i (.int v) = vs') (ha : n0 ≤ a) (hd : decode bytes pc = .ok (.iastore, 1)) (hq : pc + 1 = q)
    (r : ∀ T' h', St p l e R s m args below meth c n0 T' h' k n → Wr h h' a i (.int v) → Arv Z h' a cA .int z vs' dv → Goes p e below G (T'.setTop (mkF m q L st))) : Goes p e below G (T.setTop (mkF m pc L (.int v :: .int j :: .ref a :: st))) := by
  obtain ⟨hx, hZ, hown, hby, -⟩ := C
  obtain ⟨_, _, _, X, hF, eT, h1, h2⟩ := X
  subst hq hi hvs
  obtain ⟨cl, A, q1, Sz, q3, H, Gf⟩ := V
  obtain ⟨T', h', X', e', W', st'⟩ := stI X hx hZ eT A (j := j) (inb_of Sz hj) (g := mkF m pc L (.int v :: .int j :: .ref a :: st)) rfl rfl (hb hby hd)
  exact go_st st' (r T' h' ⟨_, _, _, X', Fr.snoc X' hF ha, e', h1, h2⟩ W' (Arv.set A q1 Sz q3 H Gf rfl W' _ rfl hlt))
theorem g_castore (C : Cx p s m meth c Z own bytes ml rt mn) (X : St p l e R s m args below meth c n0 T h k n) {a : Addr} {cA : ClassId} {z j : Int32} {vs vs' : List Value} {dv : Value} {i : Nat} {v : Int32} (V : Arv Z h a cA .char z vs dv) (hj : ¬ j < 0 ∧ j < z) (hi : j.toNatClampNeg = i) (hlt : i < vs.length) (hvs : vs.set i (.int (nar .char v)) = vs') (ha : n0 ≤ a) (hd : decode bytes pc = .ok (.castore, 1)) (hq : pc + 1 = q)
    (r : ∀ T' h', St p l e R s m args below meth c n0 T' h' k n → Wr h h' a i (.int (nar .char v)) → Arv Z h' a cA .char z vs' dv → Goes p e below G (T'.setTop (mkF m q L st))) : Goes p e below G (T.setTop (mkF m pc L (.int v :: .int j :: .ref a :: st))) := by
  obtain ⟨hx, hZ, hown, hby, -⟩ := C
  obtain ⟨_, _, _, X, hF, eT, h1, h2⟩ := X
  subst hq hi hvs
  obtain ⟨cl, A, q1, Sz, q3, H, Gf⟩ := V
  obtain ⟨T', h', X', e', W', st'⟩ := stC X hx hZ eT A (j := j) (inb_of Sz hj) (g := mkF m pc L (.int v :: .int j :: .ref a :: st)) rfl rfl (hb hby hd)
  exact go_st st' (r T' h' ⟨_, _, _, X', Fr.snoc X' hF ha, e', h1, h2⟩ W' (Arv.set A q1 Sz q3 H Gf (fits_nar_char _) W' _ rfl hlt))
theorem g_bastore (C : Cx p s m meth c Z own bytes ml rt mn) (X : St p l e R s m args below meth c n0 T h k n) {a : Addr} {cA : ClassId} {z j : Int32} {vs vs' : List Value} {dv : Value} {i : Nat} {v : Int32} (V : Arv Z h a cA .byte z vs dv) (hj : ¬ j < 0 ∧ j < z) (hi : j.toNatClampNeg = i) (hlt : i < vs.length) (hvs : vs.set i (.int (nar .byte v)) = vs') (ha : n0 ≤ a) (hd : decode bytes pc = .ok (.bastore, 1)) (hq : pc + 1 = q)
    (r : ∀ T' h', St p l e R s m args below meth c n0 T' h' k n → Wr h h' a i (.int (nar .byte v)) → Arv Z h' a cA .byte z vs' dv → Goes p e below G (T'.setTop (mkF m q L st))) : Goes p e below G (T.setTop (mkF m pc L (.int v :: .int j :: .ref a :: st))) := by
  obtain ⟨hx, hZ, hown, hby, -⟩ := C
  obtain ⟨_, _, _, X, hF, eT, h1, h2⟩ := X
  subst hq hi hvs
  obtain ⟨cl, A, q1, Sz, q3, H, Gf⟩ := V
  obtain ⟨T', h', X', e', W', st'⟩ := stB X hx hZ eT A (j := j) (inb_of Sz hj) (g := mkF m pc L (.int v :: .int j :: .ref a :: st)) rfl rfl (hb hby hd)
  exact go_st st' (r T' h' ⟨_, _, _, X', Fr.snoc X' hF ha, e', h1, h2⟩ W' (Arv.set A q1 Sz q3 H Gf (fits_nar_byte _) W' _ rfl hlt))
theorem g_zastore (C : Cx p s m meth c Z own bytes ml rt mn) (X : St p l e R s m args below meth c n0 T h k n) {a : Addr} {cA : ClassId} {z j : Int32} {vs vs' : List Value} {dv : Value} {i : Nat} {v : Int32} (V : Arv Z h a cA .boolean z vs dv) (hj : ¬ j < 0 ∧ j < z) (hi : j.toNatClampNeg = i) (hlt : i < vs.length) (hvs : vs.set i (.int (nar .boolean v)) = vs') (ha : n0 ≤ a) (hd : decode bytes pc = .ok (.bastore, 1)) (hq : pc + 1 = q)
    (r : ∀ T' h', St p l e R s m args below meth c n0 T' h' k n → Wr h h' a i (.int (nar .boolean v)) → Arv Z h' a cA .boolean z vs' dv → Goes p e below G (T'.setTop (mkF m q L st))) : Goes p e below G (T.setTop (mkF m pc L (.int v :: .int j :: .ref a :: st))) := by
  obtain ⟨hx, hZ, hown, hby, -⟩ := C
  obtain ⟨_, _, _, X, hF, eT, h1, h2⟩ := X
  subst hq hi hvs
  obtain ⟨cl, A, q1, Sz, q3, H, Gf⟩ := V
  obtain ⟨T', h', X', e', W', st'⟩ := stZ X hx hZ eT A (j := j) (inb_of Sz hj) (g := mkF m pc L (.int v :: .int j :: .ref a :: st)) rfl rfl (hb hby hd)
  exact go_st st' (r T' h' ⟨_, _, _, X', Fr.snoc X' hF ha, e', h1, h2⟩ W' (Arv.set A q1 Sz q3 H Gf (fits_nar_bool _) W' _ rfl hlt))
theorem g_lastore (C : Cx p s m meth c Z own bytes ml rt mn) (X : St p l e R s m args below meth c n0 T h k n) {a : Addr} {cA : ClassId} {z j : Int32} {vs vs' : List Value} {dv : Value} {i : Nat} {v : Int64} (V : Arv Z h a cA .long z vs dv) (hj : ¬ j < 0 ∧ j < z) (hi : j.toNatClampNeg = i) (hlt : i < vs.length) (hvs : vs.set i (.long v) = vs') (ha : n0 ≤ a) (hd : decode bytes pc = .ok (.lastore, 1)) (hq : pc + 1 = q)
    (r : ∀ T' h', St p l e R s m args below meth c n0 T' h' k n → Wr h h' a i (.long v) → Arv Z h' a cA .long z vs' dv → Goes p e below G (T'.setTop (mkF m q L st))) : Goes p e below G (T.setTop (mkF m pc L (.long v :: .int j :: .ref a :: st))) := by
  obtain ⟨hx, hZ, hown, hby, -⟩ := C
  obtain ⟨_, _, _, X, hF, eT, h1, h2⟩ := X
  subst hq hi hvs
  obtain ⟨cl, A, q1, Sz, q3, H, Gf⟩ := V
  obtain ⟨T', h', X', e', W', st'⟩ := stJ X hx hZ eT A (j := j) (inb_of Sz hj) (g := mkF m pc L (.long v :: .int j :: .ref a :: st)) rfl rfl (hb hby hd)
  exact go_st st' (r T' h' ⟨_, _, _, X', Fr.snoc X' hF ha, e', h1, h2⟩ W' (Arv.set A q1 Sz q3 H Gf rfl W' _ rfl hlt))
theorem g_dastore (C : Cx p s m meth c Z own bytes ml rt mn) (X : St p l e R s m args below meth c n0 T h k n) {a : Addr} {cA : ClassId} {z j : Int32} {vs vs' : List Value} {dv : Value} {i : Nat} {v : UInt64} (V : Arv Z h a cA .double z vs dv) (hj : ¬ j < 0 ∧ j < z) (hi : j.toNatClampNeg = i) (hlt : i < vs.length) (hvs : vs.set i (.double v) = vs') (ha : n0 ≤ a) (hd : decode bytes pc = .ok (.dastore, 1)) (hq : pc + 1 = q)
    (r : ∀ T' h', St p l e R s m args below meth c n0 T' h' k n → Wr h h' a i (.double v) → Arv Z h' a cA .double z vs' dv → Goes p e below G (T'.setTop (mkF m q L st))) : Goes p e below G (T.setTop (mkF m pc L (.double v :: .int j :: .ref a :: st))) := by
  obtain ⟨hx, hZ, hown, hby, -⟩ := C
  obtain ⟨_, _, _, X, hF, eT, h1, h2⟩ := X
  subst hq hi hvs
  obtain ⟨cl, A, q1, Sz, q3, H, Gf⟩ := V
  obtain ⟨T', h', X', e', W', st'⟩ := stD X hx hZ eT A (j := j) (inb_of Sz hj) (g := mkF m pc L (.double v :: .int j :: .ref a :: st)) rfl rfl (hb hby hd)
  exact go_st st' (r T' h' ⟨_, _, _, X', Fr.snoc X' hF ha, e', h1, h2⟩ W' (Arv.set A q1 Sz q3 H Gf rfl W' _ rfl hlt))
theorem g_aastore (C : Cx p s m meth c Z own bytes ml rt mn) (X : St p l e R s m args below meth c n0 T h k n) {a : Addr} {cA : ClassId} {z j : Int32} {vs vs' : List Value} {dv v : Value} {ty : FieldType} {i : Nat} (V : Arv Z h a cA ty z vs dv) (hty : ty.isReference = true) (F : Sto Z h a v) (hfv : fits ty v = true) (hj : ¬ j < 0 ∧ j < z) (hi : j.toNatClampNeg = i) (hlt : i < vs.length) (hvs : vs.set i v = vs') (ha : n0 ≤ a) (hd : decode bytes pc = .ok (.aastore, 1)) (hq : pc + 1 = q)
    (r : ∀ T' h', St p l e R s m args below meth c n0 T' h' k n → Wr h h' a i v → Arv Z h' a cA ty z vs' dv → Goes p e below G (T'.setTop (mkF m q L st))) : Goes p e below G (T.setTop (mkF m pc L (v :: .int j :: .ref a :: st))) := by
  obtain ⟨hx, hZ, hown, hby, -⟩ := C
  obtain ⟨_, _, _, X, hF, eT, h1, h2⟩ := X
  subst hq hi hvs
  obtain ⟨cl, A, q1, Sz, q3, H, Gf⟩ := V
  obtain ⟨T', h', X', e', W', st'⟩ := stR X hx hZ eT A (j := j) (inb_of Sz hj) hty F (g := mkF m pc L (v :: .int j :: .ref a :: st)) rfl rfl (hb hby hd)
  exact go_st st' (r T' h' ⟨_, _, _, X', Fr.snoc X' hF ha, e', h1, h2⟩ W' (Arv.set A q1 Sz q3 H Gf hfv W' _ rfl hlt))
theorem g_iaload (C : Cx p s m meth c Z own bytes ml rt mn) (X : St p l e R s m args below meth c n0 T h k n) {a : Addr} {cA : ClassId} {z j : Int32} {vs : List Value} {dv w : Value}  (V : Arv Z h a cA .int z vs dv) (hj : ¬ j < 0 ∧ j < z) (hv : vs.getD j.toNatClampNeg dv = w) (hd : decode bytes pc = .ok (.iaload, 1)) (hq : pc + 1 = q) (r : Goes p e below G (T.setTop (mkF m q L (w :: st)))) : Goes p e below G (T.setTop (mkF m pc L (.int j :: .ref a :: st))) := by
  obtain ⟨hx, hZ, hown, hby, -⟩ := C
  obtain ⟨_, _, _, X, hF, eT, h1, h2⟩ := X
  subst hq
  obtain ⟨cl, A, q1, Sz, q3, H, Gf⟩ := V
  exact go_st (fun t k => X.iaload hx (j := j) (v := w) (by rw [eT]; exact A.1) (State.isArrayOf_alike hZ.alike A.2.1) A.2.2 (inb_of Sz hj) (H.at (inb_of Sz hj) hv) (g := mkF m pc L (.int j :: .ref a :: st)) rfl rfl (hb hby hd) t k) r
theorem g_caload (C : Cx p s m meth c Z own bytes ml rt mn) (X : St p l e R s m args below meth c n0 T h k n) {a : Addr} {cA : ClassId} {z j : Int32} {vs : List Value} {dv w : Value}  (V : Arv Z h a cA .char z vs dv) (hj : ¬ j < 0 ∧ j < z) (hv : vs.getD j.toNatClampNeg dv = w) (hd : decode bytes pc = .ok (.caload, 1)) (hq : pc + 1 = q) (r : Goes p e below G (T.setTop (mkF m q L (w :: st)))) : Goes p e below G (T.setTop (mkF m pc L (.int j :: .ref a :: st))) := by
  obtain ⟨hx, hZ, hown, hby, -⟩ := C
  obtain ⟨_, _, _, X, hF, eT, h1, h2⟩ := X
  subst hq
  obtain ⟨cl, A, q1, Sz, q3, H, Gf⟩ := V
  exact go_st (fun t k => X.caload hx (j := j) (v := w) (by rw [eT]; exact A.1) (State.isArrayOf_alike hZ.alike A.2.1) A.2.2 (inb_of Sz hj) (H.at (inb_of Sz hj) hv) (g := mkF m pc L (.int j :: .ref a :: st)) rfl rfl (hb hby hd) t k) r
theorem g_baload (C : Cx p s m meth c Z own bytes ml rt mn) (X : St p l e R s m args below meth c n0 T h k n) {a : Addr} {cA : ClassId} {z j : Int32} {vs : List Value} {dv w : Value}  (V : Arv Z h a cA .byte z vs dv) (hj : ¬ j < 0 ∧ j < z) (hv : vs.getD j.toNatClampNeg dv = w) (hd : decode bytes pc = .ok (.baload, 1)) (hq : pc + 1 = q) (r : Goes p e below G (T.setTop (mkF m q L (w :: st)))) : Goes p e below G (T.setTop (mkF m pc L (.int j :: .ref a :: st))) := by
  obtain ⟨hx, hZ, hown, hby, -⟩ := C
  obtain ⟨_, _, _, X, hF, eT, h1, h2⟩ := X
  subst hq
  obtain ⟨cl, A, q1, Sz, q3, H, Gf⟩ := V
  exact go_st (fun t k => X.baloadBytes hx (j := j) (v := w) (by rw [eT]; exact A.1) (State.isArrayOf_alike hZ.alike A.2.1) A.2.2 (inb_of Sz hj) (H.at (inb_of Sz hj) hv) (g := mkF m pc L (.int j :: .ref a :: st)) rfl rfl (hb hby hd) t k) r
theorem g_zaload (C : Cx p s m meth c Z own bytes ml rt mn) (X : St p l e R s m args below meth c n0 T h k n) {a : Addr} {cA : ClassId} {z j : Int32} {vs : List Value} {dv w : Value}  (V : Arv Z h a cA .boolean z vs dv) (hj : ¬ j < 0 ∧ j < z) (hv : vs.getD j.toNatClampNeg dv = w) (hd : decode bytes pc = .ok (.baload, 1)) (hq : pc + 1 = q) (r : Goes p e below G (T.setTop (mkF m q L (w :: st)))) : Goes p e below G (T.setTop (mkF m pc L (.int j :: .ref a :: st))) := by
  obtain ⟨hx, hZ, hown, hby, -⟩ := C
  obtain ⟨_, _, _, X, hF, eT, h1, h2⟩ := X
  subst hq
  obtain ⟨cl, A, q1, Sz, q3, H, Gf⟩ := V
  exact go_st (fun t k => X.baloadBooleans hx (j := j) (v := w) (by rw [eT]; exact A.1) (State.isArrayOf_alike hZ.alike A.2.1) A.2.2 (inb_of Sz hj) (H.at (inb_of Sz hj) hv) (g := mkF m pc L (.int j :: .ref a :: st)) rfl rfl (hb hby hd) t k) r
theorem g_laload (C : Cx p s m meth c Z own bytes ml rt mn) (X : St p l e R s m args below meth c n0 T h k n) {a : Addr} {cA : ClassId} {z j : Int32} {vs : List Value} {dv w : Value}  (V : Arv Z h a cA .long z vs dv) (hj : ¬ j < 0 ∧ j < z) (hv : vs.getD j.toNatClampNeg dv = w) (hd : decode bytes pc = .ok (.laload, 1)) (hq : pc + 1 = q) (r : Goes p e below G (T.setTop (mkF m q L (w :: st)))) : Goes p e below G (T.setTop (mkF m pc L (.int j :: .ref a :: st))) := by
  obtain ⟨hx, hZ, hown, hby, -⟩ := C
  obtain ⟨_, _, _, X, hF, eT, h1, h2⟩ := X
  subst hq
  obtain ⟨cl, A, q1, Sz, q3, H, Gf⟩ := V
  exact go_st (fun t k => X.laload hx (j := j) (v := w) (by rw [eT]; exact A.1) (State.isArrayOf_alike hZ.alike A.2.1) A.2.2 (inb_of Sz hj) (H.at (inb_of Sz hj) hv) (g := mkF m pc L (.int j :: .ref a :: st)) rfl rfl (hb hby hd) t k) r
theorem g_daload (C : Cx p s m meth c Z own bytes ml rt mn) (X : St p l e R s m args below meth c n0 T h k n) {a : Addr} {cA : ClassId} {z j : Int32} {vs : List Value} {dv w : Value}  (V : Arv Z h a cA .double z vs dv) (hj : ¬ j < 0 ∧ j < z) (hv : vs.getD j.toNatClampNeg dv = w) (hd : decode bytes pc = .ok (.daload, 1)) (hq : pc + 1 = q) (r : Goes p e below G (T.setTop (mkF m q L (w :: st)))) : Goes p e below G (T.setTop (mkF m pc L (.int j :: .ref a :: st))) := by
  obtain ⟨hx, hZ, hown, hby, -⟩ := C
  obtain ⟨_, _, _, X, hF, eT, h1, h2⟩ := X
  subst hq
  obtain ⟨cl, A, q1, Sz, q3, H, Gf⟩ := V
  exact go_st (fun t k => X.daload hx (j := j) (v := w) (by rw [eT]; exact A.1) (State.isArrayOf_alike hZ.alike A.2.1) A.2.2 (inb_of Sz hj) (H.at (inb_of Sz hj) hv) (g := mkF m pc L (.int j :: .ref a :: st)) rfl rfl (hb hby hd) t k) r
theorem g_aaload (C : Cx p s m meth c Z own bytes ml rt mn) (X : St p l e R s m args below meth c n0 T h k n) {a : Addr} {cA : ClassId} {z j : Int32} {vs : List Value} {dv w : Value} {ty : FieldType} (hty : ty.isReference = true) (V : Arv Z h a cA ty z vs dv) (hj : ¬ j < 0 ∧ j < z) (hv : vs.getD j.toNatClampNeg dv = w) (hd : decode bytes pc = .ok (.aaload, 1)) (hq : pc + 1 = q) (r : Goes p e below G (T.setTop (mkF m q L (w :: st)))) : Goes p e below G (T.setTop (mkF m pc L (.int j :: .ref a :: st))) := by
  obtain ⟨hx, hZ, hown, hby, -⟩ := C
  obtain ⟨_, _, _, X, hF, eT, h1, h2⟩ := X
  subst hq
  obtain ⟨cl, A, q1, Sz, q3, H, Gf⟩ := V
  exact go_st (fun t k => X.aaload hx (j := j) (v := w) (by rw [eT]; exact A.1) (State.isArrayOf_alike hZ.alike A.2.1) hty A.2.2 (inb_of Sz hj) (H.at (inb_of Sz hj) hv) (g := mkF m pc L (.int j :: .ref a :: st)) rfl rfl (hb hby hd) t k) r
theorem g_alen (C : Cx p s m meth c Z own bytes ml rt mn) (X : St p l e R s m args below meth c n0 T h k n) {a : Addr} {cA : ClassId} {z : Int32} {vs : List Value} {dv : Value} {ty : FieldType} (V : Arv Z h a cA ty z vs dv) (hd : decode bytes pc = .ok (.arraylength, 1)) (hq : pc + 1 = q) (r : Goes p e below G (T.setTop (mkF m q L (.int z :: st)))) : Goes p e below G (T.setTop (mkF m pc L (.ref a :: st))) := by
  obtain ⟨hx, hZ, hown, hby, -⟩ := C
  obtain ⟨_, _, _, X, hF, eT, h1, h2⟩ := X
  subst hq
  obtain ⟨cl, A, q1, Sz, q3, H, Gf⟩ := V
  exact go_st (fun t k => X.arraylength hx (by rw [eT]; exact A.1) (State.isArrayOf_alike hZ.alike A.2.1) (g := mkF m pc L (.ref a :: st)) rfl rfl (hb hby hd) t (by rw [len_of Sz q3]; exact k)) r
theorem g_newR (C : Cx p s m meth c Z own bytes ml rt mn) (X : St p l e R s m args below meth c n0 T h k n) {K : String} {i cap k' n' : Nat} {z : Int32} (w1 : (Cond.classLink own i K).before a0 Z = true) (w2 : (Cond.arrayOver (.object K)).before a0 Z = true) (hd : decode bytes pc = .ok (.anewarray i, 3)) (hq : pc + 3 = q) (hz : ¬ z < 0) (hcap : z.toNatClampNeg ≤ cap) (hcb : cap * 8 ≤ 536870912) (hk : k + 1 = k') (hn : n + cap = n') (hkR : k' ≤ R.cells) (hnR : n' ≤ R.slots)
    (r : ∀ T' h' cA a, a = h.size → St p l e R s m args below meth c n0 T' h' k' n' → Ext h h' → Arv Z h' a cA (.object K) z [] .null → Ovr Z cA K → Goes p e below G (T'.setTop (mkF m q L (.ref a :: st)))) : Goes p e below G (T.setTop (mkF m pc L (.int z :: st))) := by
  obtain ⟨hx, hZ, hown, hby, -⟩ := C
  obtain ⟨_, _, _, X, hF, eT, h1, h2⟩ := X
  subst hq hk hn
  obtain ⟨T', h', cA, X', e', E', A', O', st'⟩ := newR X hx hZ hown w1 w2 eT (g := mkF m pc L (.int z :: st)) rfl (hb hby hd) rfl hz (cap := cap) hcap hcb (Nat.le_trans (Nat.add_le_add_right h1 1) hkR) (Nat.le_trans (Nat.add_le_add_right h2 cap) hnR)
  exact go_st st' (r T' h' cA _ rfl ⟨_, _, _, X', hF, e', Nat.add_le_add_right h1 1, Nat.add_le_add_right h2 cap⟩ E' (Arv.new A' hz) O')
theorem g_castY (C : Cx p s m meth c Z own bytes ml rt mn) (X : St p l e R s m args below meth c n0 T h k n) {K : String} {i : Nat} {a : Addr} (w : (Cond.classLink own i K).before a0 Z = true) (I : Ins Z h a K true) (hd : decode bytes pc = .ok (.checkcast i, 3)) (hq : pc + 3 = q) (r : ∀ T', St p l e R s m args below meth c n0 T' h k n → Goes p e below G (T'.setTop (mkF m q L (.ref a :: st)))) : Goes p e below G (T.setTop (mkF m pc L (.ref a :: st))) := by
  obtain ⟨hx, hZ, hown, hby, -⟩ := C
  obtain ⟨_, _, _, X, hF, eT, h1, h2⟩ := X
  subst hq
  obtain ⟨T', X', e', st'⟩ := castY X hx hZ hown w eT I (g := mkF m pc L (.ref a :: st)) rfl rfl (hb hby hd)
  exact go_st st' (r T' ⟨_, _, _, X', hF, e', h1, h2⟩)
theorem g_instY (C : Cx p s m meth c Z own bytes ml rt mn) (X : St p l e R s m args below meth c n0 T h k n) {K : String} {i : Nat} {a : Addr} (w : (Cond.classLink own i K).before a0 Z = true) (I : Ins Z h a K true) (hd : decode bytes pc = .ok (.instanceof i, 3)) (hq : pc + 3 = q) (r : ∀ T', St p l e R s m args below meth c n0 T' h k n → Goes p e below G (T'.setTop (mkF m q L (.int 1 :: st)))) : Goes p e below G (T.setTop (mkF m pc L (.ref a :: st))) := by
  obtain ⟨hx, hZ, hown, hby, -⟩ := C
  obtain ⟨_, _, _, X, hF, eT, h1, h2⟩ := X
  subst hq
  obtain ⟨T', X', e', st'⟩ := instY X hx hZ hown w eT I (g := mkF m pc L (.ref a :: st)) rfl rfl (hb hby hd)
  exact go_st st' (r T' ⟨_, _, _, X', hF, e', h1, h2⟩)
theorem g_instNo (C : Cx p s m meth c Z own bytes ml rt mn) (X : St p l e R s m args below meth c n0 T h k n) {K K' : String} {i : Nat} {a : Addr} (w : (Cond.classLink own i K).before a0 Z = true) (E : Exa Z h a K') (F : ∃ c t, Z.vm.findClass K' = some c ∧ Z.vm.findClass K = some t ∧ Z.vm.assignable c t = false) (hd : decode bytes pc = .ok (.instanceof i, 3)) (hq : pc + 3 = q) (r : ∀ T', St p l e R s m args below meth c n0 T' h k n → Goes p e below G (T'.setTop (mkF m q L (.int 0 :: st)))) : Goes p e below G (T.setTop (mkF m pc L (.ref a :: st))) := by
  obtain ⟨hx, hZ, hown, hby, -⟩ := C
  obtain ⟨_, _, _, X, hF, eT, h1, h2⟩ := X
  subst hq
  obtain ⟨T', X', e', st'⟩ := instNo X hx hZ hown w eT E F (g := mkF m pc L (.ref a :: st)) rfl rfl (hb hby hd)
  exact go_st st' (r T' ⟨_, _, _, X', hF, e', h1, h2⟩)
theorem g_instNull (C : Cx p s m meth c Z own bytes ml rt mn) (X : St p l e R s m args below meth c n0 T h k n) {i : Nat} (hd : decode bytes pc = .ok (.instanceof i, 3)) (hq : pc + 3 = q) (r : Goes p e below G (T.setTop (mkF m q L (.int 0 :: st)))) : Goes p e below G (T.setTop (mkF m pc L (.null :: st))) := by
  obtain ⟨hx, hZ, hown, hby, -⟩ := C
  obtain ⟨_, _, _, X, hF, eT, h1, h2⟩ := X
  subst hq
  exact go_st (fun t k => X.instanceofNull hx (g := mkF m pc L (.null :: st)) rfl rfl (hb hby hd) t k) r
theorem g_castNull (C : Cx p s m meth c Z own bytes ml rt mn) (X : St p l e R s m args below meth c n0 T h k n) {i : Nat} (hd : decode bytes pc = .ok (.checkcast i, 3)) (hq : pc + 3 = q) (r : Goes p e below G (T.setTop (mkF m q L (.null :: st)))) : Goes p e below G (T.setTop (mkF m pc L (.null :: st))) := by
  obtain ⟨hx, hZ, hown, hby, -⟩ := C
  obtain ⟨_, _, _, X, hF, eT, h1, h2⟩ := X
  subst hq
  exact go_st (fun t k => X.checkcastNull hx (g := mkF m pc L (.null :: st)) rfl rfl (hb hby hd) t k) r
theorem g_getClass (C : Cx p s m meth c Z own bytes ml rt mn) (X : St p l e R s m args below meth c n0 T h k n) {K : String} {i : Nat} {a mr : Addr} (w1 : (Cond.methodLink own i ⟨"java/lang/Object", "getClass", "()Ljava/lang/Class;"⟩).before a0 Z = true) (w2 : (Cond.declares ⟨"java/lang/Object", "getClass", "()Ljava/lang/Class;"⟩).before a0 Z = true) (w4 : (Cond.selects K ⟨"java/lang/Object", "getClass", "()Ljava/lang/Class;"⟩ ⟨"java/lang/Object", "getClass", "()Ljava/lang/Class;"⟩).before a0 Z = true)
    (w5 : (Cond.instanceMethod ⟨"java/lang/Object", "getClass", "()Ljava/lang/Class;"⟩).before a0 Z = true) (w6 : (Cond.native ⟨"java/lang/Object", "getClass", "()Ljava/lang/Class;"⟩).before a0 Z = true) (E : Exa Z h a K) (M : ∃ c k, Z.vm.findClass K = some c ∧ Z.vm.classes[c]? = some k ∧ k.mirror = some mr) (hsz : L.size = ml) (hd : decode bytes pc = .ok (.invokevirtual i, 3)) (hq : pc + 3 = q) (hf : 1 ≤ R.frames) (hl : (st.map fun v => v.category).sum + (nativeFrameWords "java/lang/Object" "getClass" 1 + 11) ≤ R.locals)
    (r : ∀ T', St p l e R s m args below meth c n0 T' h k n → Goes p e below G (T'.setTop (mkF m q L (.ref mr :: st)))) : Goes p e below G (T.setTop (mkF m pc L (.ref a :: st))) := by
  obtain ⟨hx, hZ, hown, hby, hml, -⟩ := C
  obtain ⟨_, _, _, X, hF, eT, h1, h2⟩ := X
  subst hq
  obtain ⟨cB, kB, i1, i2, i3⟩ := isOf hZ eT E
  obtain ⟨cc, kc, m1, m2, m3⟩ := M
  rw [hZ.alike.findClass] at i1
  cases i1.symm.trans m1
  obtain ⟨k', q, ek⟩ := hZ.alike.2.2 _ _ m2
  obtain ⟨vm', X', st'⟩ := X.getClassOf hx hown (mvT hZ w1) (mvT hZ w2) (notFace_of_selects (args := #[]) (mvT hZ w4)) (mvT hZ w4) (mvT hZ w5) (mvT hZ w6) (by rw [hZ.alike.findClass]; exact m1) i3 q (by rw [ek]; exact m3) (g := mkF m pc L (.ref a :: st)) rfl (hsz.trans hml.symm) rfl (hb hby hd) hf (by show 2 * 0 + _ + _ ≤ _; omega)
  exact go_st st' (r _ ⟨_, _, _, X', hF, eT, h1, h2⟩)
theorem g_callSb (C : Cx p s m meth c Z own bytes ml rt mn) (X : St p l e R s m args below meth c n0 T h k n) {as' : Array Value} {argsL : List Value} {ps : List FieldType} {rt' : Option FieldType} {k' n' W kc ks : Nat} {QL : Option Value → Heap → List Loc → Prop} {y : MethodName} {i : Nat} (hy : y.cls ≠ "java/lang/invoke/MethodHandle" ∧ y.cls ≠ "java/lang/invoke/VarHandle") (w1 : (Cond.methodLink own i y).before a0 Z = true) (w2 : (Cond.static y).before a0 Z = true) {bts : ByteArray} {mxl : Nat} {rty : Option FieldType} (w8 : (Cond.code y bts mxl rty).before a0 Z = true) (w9 : (Cond.initialized y.cls).before a0 Z = true) (bk : Back l R p e below s args y 3 W (fun A a => a = as' ∧ A.U.heap = h ∧ A.cells + kc ≤ R.cells ∧ A.slots + ks ≤ R.slots) (fun A _ v B => ∃ L, QL v B.U.heap L ∧ B.locs = A.locs ++ L ∧ B.cells = A.cells + kc ∧ B.slots = A.slots + ks)) (hk : k + kc = k') (hn : n + ks = n') (hkR : k' ≤ R.cells) (hnR : n' ≤ R.slots) (hsz : L.size = ml) (hdd : parseMethodDescriptor y.desc = some ⟨ps, rt'⟩) (hlen : argsL.length = ps.length) (hst : st = argsL.reverse ++ rest) (has : argsL.toArray = as') (hW : (rest.map fun v => v.category).sum = W) (hd : decode bytes pc = .ok (.invokestatic i, 3)) (hq : pc + 3 = q)
    (r : ∀ v T' h' L', St p l e R s m args below meth c n0 T' h' k' n' ∨ ¬ Fr n0 L' → QL v h' L' → Goes p e below G (T'.setTop (mkF m q L (v.toList ++ rest)))) : Goes p e below G (T.setTop (mkF m pc L st)) := by
  obtain ⟨hx, hZ, hown, hby, hml, -⟩ := C
  obtain ⟨_, cells, slots, X, hF, eT, h1, h2⟩ := X
  subst hq hk hn has hst hW
  obtain ⟨_, _, ⟨T', Lo, kk, nn⟩, -, X', ⟨Lc, hQ, q1, q2, q3⟩, st'⟩ := Jvm.LawKit.callS X hx hown (mvT hZ w1) (mvT hZ w2) (mvT hZ w9) (mvT hZ w8) hy bk (g := mkF m pc L (argsL.reverse ++ rest)) rfl (hsz.trans hml.symm) (argsL := argsL) (rest := rest) (lenOf hdd hlen) rfl (by show 2 * 0 + _ ≤ _; omega) (hb hby hd) (fun _ _ => ⟨rfl, eT, Nat.le_trans (Nat.add_le_add_right h1 _) hkR, Nat.le_trans (Nat.add_le_add_right h2 _) hnR⟩)
  dsimp only [Pt.U, Pt.locs, Pt.cells, Pt.slots] at X' q1 q2 q3 st' hQ
  subst q1 q2 q3
  refine go_st st' (r _ T' _ Lc ?_ hQ)
  by_cases hFr : Fr n0 Lc
  · exact Or.inl ⟨_, _, _, X', Fr.app hF hFr, rfl, Nat.add_le_add_right h1 _, Nat.add_le_add_right h2 _⟩
  · exact Or.inr hFr
theorem g_callS1 (C : Cx p s m meth c Z own bytes ml rt mn) (X : St p l e R s m args below meth c n0 T h k n) {rm : Room} {as' : Array Value} {bts : ByteArray} {mxl : Nat} {rty : Option FieldType} {argsL : List Value} {ps : List FieldType} {rt' : Option FieldType} {k' n' W : Nat} {Q : Value → Heap → Prop} {y : MethodName} {i : Nat} (hy : y.cls ≠ "java/lang/invoke/MethodHandle" ∧ y.cls ≠ "java/lang/invoke/VarHandle") (w1 : (Cond.methodLink own i y).before a0 Z = true) (w2 : (Cond.static y).before a0 Z = true) (w8 : (Cond.code y bts mxl rty).before a0 Z = true) (w9 : (Cond.initialized y.cls).before a0 Z = true) (hM : Met1 l Z y bts mxl rty rm as' h n0 Q) (hf : rm.frames + 1 ≤ R.frames) (hl : W + (mxl + 11) + rm.locals ≤ R.locals) (hk : k + rm.cells = k') (hn : n + rm.slots = n') (hkR : k' ≤ R.cells) (hnR : n' ≤ R.slots) (hsz : L.size = ml) (hdd : parseMethodDescriptor y.desc = some ⟨ps, rt'⟩) (hlen : argsL.length = ps.length) (hst : st = argsL.reverse ++ rest) (has : argsL.toArray = as') (hW : (rest.map fun v => v.category).sum = W) (hd : decode bytes pc = .ok (.invokestatic i, 3)) (hq : pc + 3 = q)
    (r : ∀ w T' h', St p l e R s m args below meth c n0 T' h' k' n' → Q w h' → Goes p e below G (T'.setTop (mkF m q L (w :: rest)))) : Goes p e below G (T.setTop (mkF m pc L st)) := by
  have bk := backOf (Q := fun v h L => Fr n0 L ∧ (∃ w, v = some w ∧ Q w h)) (R := R) (p := p) (e := e) (below := below) (s := s) (args := args) (len := 3) (W := W) (hM []) C.2.1 w8 w9 hf hl
  refine g_callSb C X (QL := fun v h L => Fr n0 L ∧ (∃ w, v = some w ∧ Q w h)) hy w1 w2 w8 w9 bk hk hn hkR hnR hsz hdd hlen hst has hW hd hq ?_
  rintro v T' h' L' hX ⟨hFr, hQ⟩
  obtain ⟨w, rfl, hQ⟩ := hQ
  exact r w T' h' (hX.resolve_right fun z => z hFr) hQ
theorem g_callS0 (C : Cx p s m meth c Z own bytes ml rt mn) (X : St p l e R s m args below meth c n0 T h k n) {rm : Room} {as' : Array Value} {bts : ByteArray} {mxl : Nat} {rty : Option FieldType} {argsL : List Value} {ps : List FieldType} {rt' : Option FieldType} {k' n' W : Nat} {Q : Heap → Prop} {y : MethodName} {i : Nat} (hy : y.cls ≠ "java/lang/invoke/MethodHandle" ∧ y.cls ≠ "java/lang/invoke/VarHandle") (w1 : (Cond.methodLink own i y).before a0 Z = true) (w2 : (Cond.static y).before a0 Z = true) (w8 : (Cond.code y bts mxl rty).before a0 Z = true) (w9 : (Cond.initialized y.cls).before a0 Z = true) (hM : Met0 l Z y bts mxl rty rm as' h n0 Q) (hf : rm.frames + 1 ≤ R.frames) (hl : W + (mxl + 11) + rm.locals ≤ R.locals) (hk : k + rm.cells = k') (hn : n + rm.slots = n') (hkR : k' ≤ R.cells) (hnR : n' ≤ R.slots) (hsz : L.size = ml) (hdd : parseMethodDescriptor y.desc = some ⟨ps, rt'⟩) (hlen : argsL.length = ps.length) (hst : st = argsL.reverse ++ rest) (has : argsL.toArray = as') (hW : (rest.map fun v => v.category).sum = W) (hd : decode bytes pc = .ok (.invokestatic i, 3)) (hq : pc + 3 = q)
    (r : ∀ T' h', St p l e R s m args below meth c n0 T' h' k' n' → Q h' → Goes p e below G (T'.setTop (mkF m q L rest))) : Goes p e below G (T.setTop (mkF m pc L st)) := by
  have bk := backOf (Q := fun v h L => Fr n0 L ∧ (v = none ∧ Q h)) (R := R) (p := p) (e := e) (below := below) (s := s) (args := args) (len := 3) (W := W) (hM []) C.2.1 w8 w9 hf hl
  refine g_callSb C X (QL := fun v h L => Fr n0 L ∧ (v = none ∧ Q h)) hy w1 w2 w8 w9 bk hk hn hkR hnR hsz hdd hlen hst has hW hd hq ?_
  rintro v T' h' L' hX ⟨hFr, hQ⟩
  obtain ⟨rfl, hQ⟩ := hQ
  exact r T' h' (hX.resolve_right fun z => z hFr) hQ
theorem g_callIb (C : Cx p s m meth c Z own bytes ml rt mn) (X : St p l e R s m args below meth c n0 T h k n) {as' : Array Value} {argsL : List Value} {ps : List FieldType} {rt' : Option FieldType} {k' n' W kc ks : Nat} {QL : Option Value → Heap → List Loc → Prop} {y : MethodName} {i : Nat} {a : Addr} (hy : y.cls ≠ "java/lang/invoke/MethodHandle" ∧ y.cls ≠ "java/lang/invoke/VarHandle") (hy1 : y.name = "<init>") (w1 : (Cond.methodLink own i y).before a0 Z = true) (w2 : (Cond.instanceMethod y).before a0 Z = true) {bts : ByteArray} {mxl : Nat} (w8 : (Cond.code y bts mxl none).before a0 Z = true) (bk : Back l R p e below s args y 3 W (fun A a => a = as' ∧ A.U.heap = h ∧ A.cells + kc ≤ R.cells ∧ A.slots + ks ≤ R.slots) (fun A _ v B => ∃ L, QL v B.U.heap L ∧ B.locs = A.locs ++ L ∧ B.cells = A.cells + kc ∧ B.slots = A.slots + ks)) (hk : k + kc = k') (hn : n + ks = n') (hkR : k' ≤ R.cells) (hnR : n' ≤ R.slots) (hsz : L.size = ml) (hdd : parseMethodDescriptor y.desc = some ⟨ps, rt'⟩) (hlen : argsL.length = ps.length) (hst : st = argsL.reverse ++ .ref a :: rest) (has : (.ref a :: argsL).toArray = as') (hW : (rest.map fun v => v.category).sum = W) (hd : decode bytes pc = .ok (.invokespecial i, 3)) (hq : pc + 3 = q)
    (r : ∀ v T' h' L', St p l e R s m args below meth c n0 T' h' k' n' ∨ ¬ Fr n0 L' → QL v h' L' → Goes p e below G (T'.setTop (mkF m q L (v.toList ++ rest)))) : Goes p e below G (T.setTop (mkF m pc L st)) := by
  obtain ⟨hx, hZ, hown, hby, hml, -⟩ := C
  obtain ⟨_, cells, slots, X, hF, eT, h1, h2⟩ := X
  subst hq hk hn has hst hW
  obtain ⟨_, _, ⟨T', Lo, kk, nn⟩, -, X', ⟨Lc, hQ, q1, q2, q3⟩, st'⟩ := X.specialBack hx hy1 hown (mvT hZ w1) (mvT hZ w2) (mvT hZ w8) hy bk (g := mkF m pc L (argsL.reverse ++ .ref a :: rest)) rfl (hsz.trans hml.symm) (Steps.refl _) (a := a) (argsL := argsL) (rest := rest) (lenOf hdd hlen) rfl (by show 2 * 0 + _ ≤ _; omega) (hb hby hd) (fun _ _ => ⟨rfl, eT, Nat.le_trans (Nat.add_le_add_right h1 _) hkR, Nat.le_trans (Nat.add_le_add_right h2 _) hnR⟩)
  dsimp only [Pt.U, Pt.locs, Pt.cells, Pt.slots] at X' q1 q2 q3 st' hQ
  subst q1 q2 q3
  refine go_tr st' (r _ T' _ Lc ?_ hQ)
  by_cases hFr : Fr n0 Lc
  · exact Or.inl ⟨_, _, _, X', Fr.app hF hFr, rfl, Nat.add_le_add_right h1 _, Nat.add_le_add_right h2 _⟩
  · exact Or.inr hFr
theorem g_callI0 (C : Cx p s m meth c Z own bytes ml rt mn) (X : St p l e R s m args below meth c n0 T h k n) {rm : Room} {as' : Array Value} {bts : ByteArray} {mxl : Nat} {argsL : List Value} {ps : List FieldType} {rt' : Option FieldType} {k' n' W : Nat} {Q : Heap → Prop} {y : MethodName} {i : Nat} {a : Addr} (hy : y.cls ≠ "java/lang/invoke/MethodHandle" ∧ y.cls ≠ "java/lang/invoke/VarHandle") (hy1 : y.name = "<init>") (w1 : (Cond.methodLink own i y).before a0 Z = true) (w2 : (Cond.instanceMethod y).before a0 Z = true) (w8 : (Cond.code y bts mxl none).before a0 Z = true) (w9 : (Cond.initialized y.cls).before a0 Z = true) (hM : Met0 l Z y bts mxl none rm as' h n0 Q) (hf : rm.frames + 1 ≤ R.frames) (hl : W + (mxl + 11) + rm.locals ≤ R.locals) (hk : k + rm.cells = k') (hn : n + rm.slots = n') (hkR : k' ≤ R.cells) (hnR : n' ≤ R.slots) (hsz : L.size = ml) (hdd : parseMethodDescriptor y.desc = some ⟨ps, rt'⟩) (hlen : argsL.length = ps.length) (hst : st = argsL.reverse ++ .ref a :: rest) (has : (.ref a :: argsL).toArray = as') (hW : (rest.map fun v => v.category).sum = W) (hd : decode bytes pc = .ok (.invokespecial i, 3)) (hq : pc + 3 = q)
    (r : ∀ T' h', St p l e R s m args below meth c n0 T' h' k' n' → Q h' → Goes p e below G (T'.setTop (mkF m q L rest))) : Goes p e below G (T.setTop (mkF m pc L st)) := by
  have bk := backOf (Q := fun v h L => Fr n0 L ∧ (v = none ∧ Q h)) (R := R) (p := p) (e := e) (below := below) (s := s) (args := args) (len := 3) (W := W) (hM []) C.2.1 w8 w9 hf hl
  refine g_callIb C X (QL := fun v h L => Fr n0 L ∧ (v = none ∧ Q h)) hy hy1 w1 w2 w8 bk hk hn hkR hnR hsz hdd hlen hst has hW hd hq ?_
  rintro v T' h' L' hX ⟨hFr, hQ⟩
  obtain ⟨rfl, hQ⟩ := hQ
  exact r T' h' (hX.resolve_right fun z => z hFr) hQ
theorem g_callVb (C : Cx p s m meth c Z own bytes ml rt mn) (X : St p l e R s m args below meth c n0 T h k n) {as' : Array Value} {argsL : List Value} {ps : List FieldType} {rt' : Option FieldType} {k' n' W kc ks : Nat} {QL : Option Value → Heap → List Loc → Prop} {y z : MethodName} {i : Nat} {a : Addr} {K : String} (hy : y.cls ≠ "java/lang/invoke/MethodHandle" ∧ y.cls ≠ "java/lang/invoke/VarHandle") (w1 : (Cond.methodLink own i y).before a0 Z = true) (w2 : (Cond.declares y).before a0 Z = true) (w3 : (Cond.selects K y z).before a0 Z = true) (w4 : (Cond.instanceMethod z).before a0 Z = true) (hnf : ∀ s' : State, Z.Warmed39 s'.vm → NotFace s' y) (E : Exa Z h a K) (bk : Back l R p e below s args z 3 W (fun A a => a = as' ∧ A.U.heap = h ∧ A.cells + kc ≤ R.cells ∧ A.slots + ks ≤ R.slots) (fun A _ v B => ∃ L, QL v B.U.heap L ∧ B.locs = A.locs ++ L ∧ B.cells = A.cells + kc ∧ B.slots = A.slots + ks)) (hk : k + kc = k') (hn : n + ks = n') (hkR : k' ≤ R.cells) (hnR : n' ≤ R.slots) (hsz : L.size = ml) (hdd : parseMethodDescriptor y.desc = some ⟨ps, rt'⟩) (hlen : argsL.length = ps.length) (hst : st = argsL.reverse ++ .ref a :: rest) (has : (.ref a :: argsL).toArray = as') (hW : (rest.map fun v => v.category).sum = W) (hd : decode bytes pc = .ok (.invokevirtual i, 3)) (hq : pc + 3 = q)
    (r : ∀ v T' h' L', St p l e R s m args below meth c n0 T' h' k' n' ∨ ¬ Fr n0 L' → QL v h' L' → Goes p e below G (T'.setTop (mkF m q L (v.toList ++ rest)))) : Goes p e below G (T.setTop (mkF m pc L st)) := by
  obtain ⟨hx, hZ, hown, hby, hml, -⟩ := C
  obtain ⟨_, cells, slots, X, hF, eT, h1, h2⟩ := X
  subst hq hk hn has hst hW
  obtain ⟨cB, kB, qa, qb, qc⟩ := isOf hZ eT E
  obtain ⟨_, _, ⟨T', Lo, kk, nn⟩, -, X', ⟨Lc, hQ, q1, q2, q3⟩, st'⟩ := X.virtualBack hx hown (mvT hZ w1) (mvT hZ w2) (hnf s hZ) (mvT hZ w3) (mvT hZ w4) hy bk qa qc (g := mkF m pc L (argsL.reverse ++ .ref a :: rest)) rfl (hsz.trans hml.symm) (Steps.refl _) (argsL := argsL) (rest := rest) (lenOf hdd hlen) rfl (by show 2 * 0 + _ ≤ _; omega) (hb hby hd) (fun _ _ => ⟨rfl, eT, Nat.le_trans (Nat.add_le_add_right h1 _) hkR, Nat.le_trans (Nat.add_le_add_right h2 _) hnR⟩)
  dsimp only [Pt.U, Pt.locs, Pt.cells, Pt.slots] at X' q1 q2 q3 st' hQ
  subst q1 q2 q3
  refine go_tr st' (r _ T' _ Lc ?_ hQ)
  by_cases hFr : Fr n0 Lc
  · exact Or.inl ⟨_, _, _, X', Fr.app hF hFr, rfl, Nat.add_le_add_right h1 _, Nat.add_le_add_right h2 _⟩
  · exact Or.inr hFr
theorem g_callV1 (C : Cx p s m meth c Z own bytes ml rt mn) (X : St p l e R s m args below meth c n0 T h k n) {rm : Room} {as' : Array Value} {bts : ByteArray} {mxl : Nat} {rty : Option FieldType} {argsL : List Value} {ps : List FieldType} {rt' : Option FieldType} {k' n' W : Nat} {Q : Value → Heap → Prop} {y z : MethodName} {i : Nat} {a : Addr} {K : String} (hy : y.cls ≠ "java/lang/invoke/MethodHandle" ∧ y.cls ≠ "java/lang/invoke/VarHandle") (w1 : (Cond.methodLink own i y).before a0 Z = true) (w2 : (Cond.declares y).before a0 Z = true) (w3 : (Cond.selects K y z).before a0 Z = true) (w4 : (Cond.instanceMethod z).before a0 Z = true) (hnf : ∀ s' : State, Z.Warmed39 s'.vm → NotFace s' y) (E : Exa Z h a K) (w8 : (Cond.code z bts mxl rty).before a0 Z = true) (w9 : (Cond.initialized z.cls).before a0 Z = true) (hM : Met1 l Z z bts mxl rty rm as' h n0 Q) (hf : rm.frames + 1 ≤ R.frames) (hl : W + (mxl + 11) + rm.locals ≤ R.locals) (hk : k + rm.cells = k') (hn : n + rm.slots = n') (hkR : k' ≤ R.cells) (hnR : n' ≤ R.slots) (hsz : L.size = ml) (hdd : parseMethodDescriptor y.desc = some ⟨ps, rt'⟩) (hlen : argsL.length = ps.length) (hst : st = argsL.reverse ++ .ref a :: rest) (has : (.ref a :: argsL).toArray = as') (hW : (rest.map fun v => v.category).sum = W) (hd : decode bytes pc = .ok (.invokevirtual i, 3)) (hq : pc + 3 = q)
    (r : ∀ w T' h', St p l e R s m args below meth c n0 T' h' k' n' → Q w h' → Goes p e below G (T'.setTop (mkF m q L (w :: rest)))) : Goes p e below G (T.setTop (mkF m pc L st)) := by
  have bk := backOf (Q := fun v h L => Fr n0 L ∧ (∃ w, v = some w ∧ Q w h)) (R := R) (p := p) (e := e) (below := below) (s := s) (args := args) (len := 3) (W := W) (hM []) C.2.1 w8 w9 hf hl
  refine g_callVb C X (QL := fun v h L => Fr n0 L ∧ (∃ w, v = some w ∧ Q w h)) hy w1 w2 w3 w4 hnf E bk hk hn hkR hnR hsz hdd hlen hst has hW hd hq ?_
  rintro v T' h' L' hX ⟨hFr, hQ⟩
  obtain ⟨w, rfl, hQ⟩ := hQ
  exact r w T' h' (hX.resolve_right fun z => z hFr) hQ
theorem g_callV0 (C : Cx p s m meth c Z own bytes ml rt mn) (X : St p l e R s m args below meth c n0 T h k n) {rm : Room} {as' : Array Value} {bts : ByteArray} {mxl : Nat} {rty : Option FieldType} {argsL : List Value} {ps : List FieldType} {rt' : Option FieldType} {k' n' W : Nat} {Q : Heap → Prop} {y z : MethodName} {i : Nat} {a : Addr} {K : String} (hy : y.cls ≠ "java/lang/invoke/MethodHandle" ∧ y.cls ≠ "java/lang/invoke/VarHandle") (w1 : (Cond.methodLink own i y).before a0 Z = true) (w2 : (Cond.declares y).before a0 Z = true) (w3 : (Cond.selects K y z).before a0 Z = true) (w4 : (Cond.instanceMethod z).before a0 Z = true) (hnf : ∀ s' : State, Z.Warmed39 s'.vm → NotFace s' y) (E : Exa Z h a K) (w8 : (Cond.code z bts mxl rty).before a0 Z = true) (w9 : (Cond.initialized z.cls).before a0 Z = true) (hM : Met0 l Z z bts mxl rty rm as' h n0 Q) (hf : rm.frames + 1 ≤ R.frames) (hl : W + (mxl + 11) + rm.locals ≤ R.locals) (hk : k + rm.cells = k') (hn : n + rm.slots = n') (hkR : k' ≤ R.cells) (hnR : n' ≤ R.slots) (hsz : L.size = ml) (hdd : parseMethodDescriptor y.desc = some ⟨ps, rt'⟩) (hlen : argsL.length = ps.length) (hst : st = argsL.reverse ++ .ref a :: rest) (has : (.ref a :: argsL).toArray = as') (hW : (rest.map fun v => v.category).sum = W) (hd : decode bytes pc = .ok (.invokevirtual i, 3)) (hq : pc + 3 = q)
    (r : ∀ T' h', St p l e R s m args below meth c n0 T' h' k' n' → Q h' → Goes p e below G (T'.setTop (mkF m q L rest))) : Goes p e below G (T.setTop (mkF m pc L st)) := by
  have bk := backOf (Q := fun v h L => Fr n0 L ∧ (v = none ∧ Q h)) (R := R) (p := p) (e := e) (below := below) (s := s) (args := args) (len := 3) (W := W) (hM []) C.2.1 w8 w9 hf hl
  refine g_callVb C X (QL := fun v h L => Fr n0 L ∧ (v = none ∧ Q h)) hy w1 w2 w3 w4 hnf E bk hk hn hkR hnR hsz hdd hlen hst has hW hd hq ?_
  rintro v T' h' L' hX ⟨hFr, hQ⟩
  obtain ⟨rfl, hQ⟩ := hQ
  exact r T' h' (hX.resolve_right fun z => z hFr) hQ
theorem g_callUb (C : Cx p s m meth c Z own bytes ml rt mn) (X : St p l e R s m args below meth c n0 T h k n) {as' : Array Value} {argsL : List Value} {ps : List FieldType} {rt' : Option FieldType} {k' n' W kc ks : Nat} {QL : Option Value → Heap → List Loc → Prop} {y z : MethodName} {i : Nat} {a : Addr} {K owner : String} (hy : owner ≠ "java/lang/invoke/MethodHandle" ∧ owner ≠ "java/lang/invoke/VarHandle") (w1 : (Cond.methodLink own i y).before a0 Z = true) (w2 : (Cond.sameMethod y.cls owner y.name y.desc).before a0 Z = true) (w2' : (Cond.declares ⟨owner, y.name, y.desc⟩).before a0 Z = true) (w3 : (Cond.selects K y z).before a0 Z = true) (w4 : (Cond.instanceMethod z).before a0 Z = true) (E : Exa Z h a K) (bk : Back l R p e below s args z 3 W (fun A a => a = as' ∧ A.U.heap = h ∧ A.cells + kc ≤ R.cells ∧ A.slots + ks ≤ R.slots) (fun A _ v B => ∃ L, QL v B.U.heap L ∧ B.locs = A.locs ++ L ∧ B.cells = A.cells + kc ∧ B.slots = A.slots + ks)) (hk : k + kc = k') (hn : n + ks = n') (hkR : k' ≤ R.cells) (hnR : n' ≤ R.slots) (hsz : L.size = ml) (hdd : parseMethodDescriptor y.desc = some ⟨ps, rt'⟩) (hlen : argsL.length = ps.length) (hst : st = argsL.reverse ++ .ref a :: rest) (has : (.ref a :: argsL).toArray = as') (hW : (rest.map fun v => v.category).sum = W) (hd : decode bytes pc = .ok (.invokevirtual i, 3)) (hq : pc + 3 = q)
    (r : ∀ v T' h' L', St p l e R s m args below meth c n0 T' h' k' n' ∨ ¬ Fr n0 L' → QL v h' L' → Goes p e below G (T'.setTop (mkF m q L (v.toList ++ rest)))) : Goes p e below G (T.setTop (mkF m pc L st)) := by
  obtain ⟨hx, hZ, hown, hby, hml, -⟩ := C
  obtain ⟨_, cells, slots, X, hF, eT, h1, h2⟩ := X
  subst hq hk hn has hst hW
  obtain ⟨cB, kB, qa, qb, qc⟩ := isOf hZ eT E
  obtain ⟨_, _, ⟨T', Lo, kk, nn⟩, -, X', ⟨Lc, hQ, q1, q2, q3⟩, st'⟩ := X.virtualBackUp hx hown (mvT hZ w1) (mvT hZ w2) (mvT hZ w2') hy (mvT hZ w3) (mvT hZ w4) bk qa qc (g := mkF m pc L (argsL.reverse ++ .ref a :: rest)) rfl (hsz.trans hml.symm) (Steps.refl _) (argsL := argsL) (rest := rest) (lenOf hdd hlen) rfl (by show 2 * 0 + _ ≤ _; omega) (hb hby hd) (fun _ _ => ⟨rfl, eT, Nat.le_trans (Nat.add_le_add_right h1 _) hkR, Nat.le_trans (Nat.add_le_add_right h2 _) hnR⟩)
  dsimp only [Pt.U, Pt.locs, Pt.cells, Pt.slots] at X' q1 q2 q3 st' hQ
  subst q1 q2 q3
  refine go_tr st' (r _ T' _ Lc ?_ hQ)
  by_cases hFr : Fr n0 Lc
  · exact Or.inl ⟨_, _, _, X', Fr.app hF hFr, rfl, Nat.add_le_add_right h1 _, Nat.add_le_add_right h2 _⟩
  · exact Or.inr hFr
theorem g_callU1 (C : Cx p s m meth c Z own bytes ml rt mn) (X : St p l e R s m args below meth c n0 T h k n) {rm : Room} {as' : Array Value} {bts : ByteArray} {mxl : Nat} {rty : Option FieldType} {argsL : List Value} {ps : List FieldType} {rt' : Option FieldType} {k' n' W : Nat} {Q : Value → Heap → Prop} {y z : MethodName} {i : Nat} {a : Addr} {K owner : String} (hy : owner ≠ "java/lang/invoke/MethodHandle" ∧ owner ≠ "java/lang/invoke/VarHandle") (w1 : (Cond.methodLink own i y).before a0 Z = true) (w2 : (Cond.sameMethod y.cls owner y.name y.desc).before a0 Z = true) (w2' : (Cond.declares ⟨owner, y.name, y.desc⟩).before a0 Z = true) (w3 : (Cond.selects K y z).before a0 Z = true) (w4 : (Cond.instanceMethod z).before a0 Z = true) (E : Exa Z h a K) (w8 : (Cond.code z bts mxl rty).before a0 Z = true) (w9 : (Cond.initialized z.cls).before a0 Z = true) (hM : Met1 l Z z bts mxl rty rm as' h n0 Q) (hf : rm.frames + 1 ≤ R.frames) (hl : W + (mxl + 11) + rm.locals ≤ R.locals) (hk : k + rm.cells = k') (hn : n + rm.slots = n') (hkR : k' ≤ R.cells) (hnR : n' ≤ R.slots) (hsz : L.size = ml) (hdd : parseMethodDescriptor y.desc = some ⟨ps, rt'⟩) (hlen : argsL.length = ps.length) (hst : st = argsL.reverse ++ .ref a :: rest) (has : (.ref a :: argsL).toArray = as') (hW : (rest.map fun v => v.category).sum = W) (hd : decode bytes pc = .ok (.invokevirtual i, 3)) (hq : pc + 3 = q)
    (r : ∀ w T' h', St p l e R s m args below meth c n0 T' h' k' n' → Q w h' → Goes p e below G (T'.setTop (mkF m q L (w :: rest)))) : Goes p e below G (T.setTop (mkF m pc L st)) := by
  have bk := backOf (Q := fun v h L => Fr n0 L ∧ (∃ w, v = some w ∧ Q w h)) (R := R) (p := p) (e := e) (below := below) (s := s) (args := args) (len := 3) (W := W) (hM []) C.2.1 w8 w9 hf hl
  refine g_callUb C X (QL := fun v h L => Fr n0 L ∧ (∃ w, v = some w ∧ Q w h)) hy w1 w2 w2' w3 w4 E bk hk hn hkR hnR hsz hdd hlen hst has hW hd hq ?_
  rintro v T' h' L' hX ⟨hFr, hQ⟩
  obtain ⟨w, rfl, hQ⟩ := hQ
  exact r w T' h' (hX.resolve_right fun z => z hFr) hQ
theorem g_callU0 (C : Cx p s m meth c Z own bytes ml rt mn) (X : St p l e R s m args below meth c n0 T h k n) {rm : Room} {as' : Array Value} {bts : ByteArray} {mxl : Nat} {rty : Option FieldType} {argsL : List Value} {ps : List FieldType} {rt' : Option FieldType} {k' n' W : Nat} {Q : Heap → Prop} {y z : MethodName} {i : Nat} {a : Addr} {K owner : String} (hy : owner ≠ "java/lang/invoke/MethodHandle" ∧ owner ≠ "java/lang/invoke/VarHandle") (w1 : (Cond.methodLink own i y).before a0 Z = true) (w2 : (Cond.sameMethod y.cls owner y.name y.desc).before a0 Z = true) (w2' : (Cond.declares ⟨owner, y.name, y.desc⟩).before a0 Z = true) (w3 : (Cond.selects K y z).before a0 Z = true) (w4 : (Cond.instanceMethod z).before a0 Z = true) (E : Exa Z h a K) (w8 : (Cond.code z bts mxl rty).before a0 Z = true) (w9 : (Cond.initialized z.cls).before a0 Z = true) (hM : Met0 l Z z bts mxl rty rm as' h n0 Q) (hf : rm.frames + 1 ≤ R.frames) (hl : W + (mxl + 11) + rm.locals ≤ R.locals) (hk : k + rm.cells = k') (hn : n + rm.slots = n') (hkR : k' ≤ R.cells) (hnR : n' ≤ R.slots) (hsz : L.size = ml) (hdd : parseMethodDescriptor y.desc = some ⟨ps, rt'⟩) (hlen : argsL.length = ps.length) (hst : st = argsL.reverse ++ .ref a :: rest) (has : (.ref a :: argsL).toArray = as') (hW : (rest.map fun v => v.category).sum = W) (hd : decode bytes pc = .ok (.invokevirtual i, 3)) (hq : pc + 3 = q)
    (r : ∀ T' h', St p l e R s m args below meth c n0 T' h' k' n' → Q h' → Goes p e below G (T'.setTop (mkF m q L rest))) : Goes p e below G (T.setTop (mkF m pc L st)) := by
  have bk := backOf (Q := fun v h L => Fr n0 L ∧ (v = none ∧ Q h)) (R := R) (p := p) (e := e) (below := below) (s := s) (args := args) (len := 3) (W := W) (hM []) C.2.1 w8 w9 hf hl
  refine g_callUb C X (QL := fun v h L => Fr n0 L ∧ (v = none ∧ Q h)) hy w1 w2 w2' w3 w4 E bk hk hn hkR hnR hsz hdd hlen hst has hW hd hq ?_
  rintro v T' h' L' hX ⟨hFr, hQ⟩
  obtain ⟨rfl, hQ⟩ := hQ
  exact r T' h' (hX.resolve_right fun z => z hFr) hQ
theorem g_callPb (C : Cx p s m meth c Z own bytes ml rt mn) (X : St p l e R s m args below meth c n0 T h k n) {as' : Array Value} {argsL : List Value} {ps : List FieldType} {rt' : Option FieldType} {k' n' W kc ks : Nat} {QL : Option Value → Heap → List Loc → Prop} {y : MethodName} {i : Nat} {a : Addr} {K : String} (hy : y.cls ≠ "java/lang/invoke/MethodHandle" ∧ y.cls ≠ "java/lang/invoke/VarHandle") (w1 : (Cond.methodLink own i y).before a0 Z = true) (w3 : (Cond.selects y.cls y y).before a0 Z = true) (w4 : (Cond.instanceMethod y).before a0 Z = true) (w5 : (Cond.privateMethod y).before a0 Z = true) (E : Exa Z h a K) {bts : ByteArray} {mxl : Nat} {rty : Option FieldType} (w8 : (Cond.code y bts mxl rty).before a0 Z = true) (bk : Back l R p e below s args y 3 W (fun A a => a = as' ∧ A.U.heap = h ∧ A.cells + kc ≤ R.cells ∧ A.slots + ks ≤ R.slots) (fun A _ v B => ∃ L, QL v B.U.heap L ∧ B.locs = A.locs ++ L ∧ B.cells = A.cells + kc ∧ B.slots = A.slots + ks)) (hk : k + kc = k') (hn : n + ks = n') (hkR : k' ≤ R.cells) (hnR : n' ≤ R.slots) (hsz : L.size = ml) (hdd : parseMethodDescriptor y.desc = some ⟨ps, rt'⟩) (hlen : argsL.length = ps.length) (hst : st = argsL.reverse ++ .ref a :: rest) (has : (.ref a :: argsL).toArray = as') (hW : (rest.map fun v => v.category).sum = W) (hd : decode bytes pc = .ok (.invokevirtual i, 3)) (hq : pc + 3 = q)
    (r : ∀ v T' h' L', St p l e R s m args below meth c n0 T' h' k' n' ∨ ¬ Fr n0 L' → QL v h' L' → Goes p e below G (T'.setTop (mkF m q L (v.toList ++ rest)))) : Goes p e below G (T.setTop (mkF m pc L st)) := by
  obtain ⟨hx, hZ, hown, hby, hml, -⟩ := C
  obtain ⟨_, cells, slots, X, hF, eT, h1, h2⟩ := X
  subst hq hk hn has hst hW
  obtain ⟨cq, qa, qb⟩ := E.cell
  obtain ⟨_, _, ⟨T', Lo, kk, nn⟩, -, X', ⟨Lc, hQ, q1, q2, q3⟩, st'⟩ := X.privateBack hx hown (mvT hZ w1) (mvT hZ w4) (mvT hZ w3) (Cond.privateMethod_at (mvP hZ w5 (args := #[]))) (mvT hZ w8) hy bk (g := mkF m pc L (argsL.reverse ++ .ref a :: rest)) rfl (hsz.trans hml.symm) (Steps.refl _) (a := a) (by rw [eT]; exact qa) qb (argsL := argsL) (rest := rest) (lenOf hdd hlen) rfl (by show 2 * 0 + _ ≤ _; omega) (hb hby hd) (fun _ _ => ⟨rfl, eT, Nat.le_trans (Nat.add_le_add_right h1 _) hkR, Nat.le_trans (Nat.add_le_add_right h2 _) hnR⟩)
  dsimp only [Pt.U, Pt.locs, Pt.cells, Pt.slots] at X' q1 q2 q3 st' hQ
  subst q1 q2 q3
  refine go_tr st' (r _ T' _ Lc ?_ hQ)
  by_cases hFr : Fr n0 Lc
  · exact Or.inl ⟨_, _, _, X', Fr.app hF hFr, rfl, Nat.add_le_add_right h1 _, Nat.add_le_add_right h2 _⟩
  · exact Or.inr hFr
theorem g_callP1 (C : Cx p s m meth c Z own bytes ml rt mn) (X : St p l e R s m args below meth c n0 T h k n) {rm : Room} {as' : Array Value} {bts : ByteArray} {mxl : Nat} {rty : Option FieldType} {argsL : List Value} {ps : List FieldType} {rt' : Option FieldType} {k' n' W : Nat} {Q : Value → Heap → Prop} {y : MethodName} {i : Nat} {a : Addr} {K : String} (hy : y.cls ≠ "java/lang/invoke/MethodHandle" ∧ y.cls ≠ "java/lang/invoke/VarHandle") (w1 : (Cond.methodLink own i y).before a0 Z = true) (w3 : (Cond.selects y.cls y y).before a0 Z = true) (w4 : (Cond.instanceMethod y).before a0 Z = true) (w5 : (Cond.privateMethod y).before a0 Z = true) (E : Exa Z h a K) (w8 : (Cond.code y bts mxl rty).before a0 Z = true) (w9 : (Cond.initialized y.cls).before a0 Z = true) (hM : Met1 l Z y bts mxl rty rm as' h n0 Q) (hf : rm.frames + 1 ≤ R.frames) (hl : W + (mxl + 11) + rm.locals ≤ R.locals) (hk : k + rm.cells = k') (hn : n + rm.slots = n') (hkR : k' ≤ R.cells) (hnR : n' ≤ R.slots) (hsz : L.size = ml) (hdd : parseMethodDescriptor y.desc = some ⟨ps, rt'⟩) (hlen : argsL.length = ps.length) (hst : st = argsL.reverse ++ .ref a :: rest) (has : (.ref a :: argsL).toArray = as') (hW : (rest.map fun v => v.category).sum = W) (hd : decode bytes pc = .ok (.invokevirtual i, 3)) (hq : pc + 3 = q)
    (r : ∀ w T' h', St p l e R s m args below meth c n0 T' h' k' n' → Q w h' → Goes p e below G (T'.setTop (mkF m q L (w :: rest)))) : Goes p e below G (T.setTop (mkF m pc L st)) := by
  have bk := backOf (Q := fun v h L => Fr n0 L ∧ (∃ w, v = some w ∧ Q w h)) (R := R) (p := p) (e := e) (below := below) (s := s) (args := args) (len := 3) (W := W) (hM []) C.2.1 w8 w9 hf hl
  refine g_callPb C X (QL := fun v h L => Fr n0 L ∧ (∃ w, v = some w ∧ Q w h)) hy w1 w3 w4 w5 E w8 bk hk hn hkR hnR hsz hdd hlen hst has hW hd hq ?_
  rintro v T' h' L' hX ⟨hFr, hQ⟩
  obtain ⟨w, rfl, hQ⟩ := hQ
  exact r w T' h' (hX.resolve_right fun z => z hFr) hQ
theorem g_callP0 (C : Cx p s m meth c Z own bytes ml rt mn) (X : St p l e R s m args below meth c n0 T h k n) {rm : Room} {as' : Array Value} {bts : ByteArray} {mxl : Nat} {rty : Option FieldType} {argsL : List Value} {ps : List FieldType} {rt' : Option FieldType} {k' n' W : Nat} {Q : Heap → Prop} {y : MethodName} {i : Nat} {a : Addr} {K : String} (hy : y.cls ≠ "java/lang/invoke/MethodHandle" ∧ y.cls ≠ "java/lang/invoke/VarHandle") (w1 : (Cond.methodLink own i y).before a0 Z = true) (w3 : (Cond.selects y.cls y y).before a0 Z = true) (w4 : (Cond.instanceMethod y).before a0 Z = true) (w5 : (Cond.privateMethod y).before a0 Z = true) (E : Exa Z h a K) (w8 : (Cond.code y bts mxl rty).before a0 Z = true) (w9 : (Cond.initialized y.cls).before a0 Z = true) (hM : Met0 l Z y bts mxl rty rm as' h n0 Q) (hf : rm.frames + 1 ≤ R.frames) (hl : W + (mxl + 11) + rm.locals ≤ R.locals) (hk : k + rm.cells = k') (hn : n + rm.slots = n') (hkR : k' ≤ R.cells) (hnR : n' ≤ R.slots) (hsz : L.size = ml) (hdd : parseMethodDescriptor y.desc = some ⟨ps, rt'⟩) (hlen : argsL.length = ps.length) (hst : st = argsL.reverse ++ .ref a :: rest) (has : (.ref a :: argsL).toArray = as') (hW : (rest.map fun v => v.category).sum = W) (hd : decode bytes pc = .ok (.invokevirtual i, 3)) (hq : pc + 3 = q)
    (r : ∀ T' h', St p l e R s m args below meth c n0 T' h' k' n' → Q h' → Goes p e below G (T'.setTop (mkF m q L rest))) : Goes p e below G (T.setTop (mkF m pc L st)) := by
  have bk := backOf (Q := fun v h L => Fr n0 L ∧ (v = none ∧ Q h)) (R := R) (p := p) (e := e) (below := below) (s := s) (args := args) (len := 3) (W := W) (hM []) C.2.1 w8 w9 hf hl
  refine g_callPb C X (QL := fun v h L => Fr n0 L ∧ (v = none ∧ Q h)) hy w1 w3 w4 w5 E w8 bk hk hn hkR hnR hsz hdd hlen hst has hW hd hq ?_
  rintro v T' h' L' hX ⟨hFr, hQ⟩
  obtain ⟨rfl, hQ⟩ := hQ
  exact r T' h' (hX.resolve_right fun z => z hFr) hQ
theorem sel_priv {y : MethodName} {kk : Nat} (wi : (Cond.instantiable y.cls kk).before a0 Z = true) (w4 : (Cond.instanceMethod y).before a0 Z = true) (w5 : (Cond.privateMethod y).before a0 Z = true) (hy : y.cls ≠ "java/lang/invoke/MethodHandle" ∧ y.cls ≠ "java/lang/invoke/VarHandle") : (Cond.selects y.cls y y).before a0 Z = true := by
  obtain ⟨c1, k1, i1, i2, -, i4, -⟩ := Cond.instantiable_spec wi
  exact Stand.selects_self_of_private i1 i2 (by simp only [Bool.or_eq_false_iff] at i4; exact i4.1) (Cond.privateMethod_at w5) w4 hy
theorem own_noInst {K O Ko : String} {nn : Nat} (wO : (Cond.noSuperclass O).before a0 Z = true) (wC : (Cond.superclass Ko O).before a0 Z = true) (wK : (Cond.instantiable K nn).before a0 Z = true) (h1 : Ko ≠ K) (h2 : O ≠ K) : ∃ c t, Z.vm.findClass Ko = some c ∧ Z.vm.findClass K = some t ∧ Z.vm.assignable c t = false := by
  obtain ⟨t, kt, g1, g2, g3, g4, -⟩ := Cond.instantiable_spec wK
  obtain ⟨o, ko, o1, o2, o3, -, -⟩ := Cond.noSuperclass_spec wO
  have neO := ids_ne o1 g1 h2
  have nO : NS Z O K := ⟨o, t, o1, g1, fun fuel => by
    cases fuel with
    | zero => rfl
    | succ f => simp [Vm.isSubclassAux, neO, o2, o3]⟩
  obtain ⟨c, t', h0, g0, n3⟩ := NS.step wC nO h1
  cases g1.symm.trans g0
  obtain ⟨p, k, kp, q1, q2, q3, q4, q5, -, q7⟩ := Cond.superclass_spec h0 wC
  have neC := ids_ne h0 g1 h1
  simp only [Bool.or_eq_false_iff] at g4
  refine ⟨c, t, h0, g1, ?_⟩
  show Z.vm.assignableAux (255 + 1) c t = false
  simp [Vm.assignableAux, neC, q2, g2, q5, g3, g4.1, Vm.isSubclass, n3]
theorem own_nb {b : Int32} {t : Bool} (h1 : t = true → b = 0) (h2 : t = false → b = 1) : nar .boolean b = b := by
  cases t
  · rw [h2 rfl]; decide
  · rw [h1 rfl]; decide
theorem nf_sel {y : MethodName} {K : String} (w : (Cond.selects K y y).before a0 Z = true) : ∀ s' : State, Z.Warmed39 s'.vm → NotFace s' y := fun s' hZ => notFace_of_selects (args := #[]) (mvT hZ w)
end OwnKit
theorem own_i32 {x y : Int32} (h : x.toInt = y.toInt) : x = y := Int32.toInt_inj.mp h
theorem own_r1 {u w : Int32} {hi : Int} (h : u.toInt ≤ hi) (hw : hi < w.toInt) : u < w := Int32.lt_iff_toInt_lt.mpr (Int.lt_of_le_of_lt h hw)
theorem own_r2 {u w : Int32} {lo : Int} (h : lo ≤ u.toInt) (hw : w.toInt ≤ lo) : ¬ u < w := fun q => by have := Int32.lt_iff_toInt_lt.mp q; omega
theorem own_r3 {u w : Int32} {lo : Int} (h : lo ≤ w.toInt) (hu : u.toInt < lo) : u < w := Int32.lt_iff_toInt_lt.mpr (by omega)
theorem own_r4 {u w : Int32} {hi : Int} (h : w.toInt ≤ hi) (hu : hi ≤ u.toInt) : ¬ u < w := fun q => by have := Int32.lt_iff_toInt_lt.mp q; omega
theorem own_r5 {u w : Int32} {lo : Int} (h : lo ≤ u.toInt) (hw : w.toInt < lo) : ¬ u = w := fun q => by subst q; omega
theorem own_r6 {u w : Int32} {hi : Int} (h : u.toInt ≤ hi) (hw : hi < w.toInt) : ¬ u = w := fun q => by subst q; omega
theorem own_f0 {u w : Int32} {z : Int} (h1 : z ≤ u.toInt) (h2 : u.toInt ≤ z) (hz : w.toInt = z) : u = w := own_i32 (by omega)
theorem own_f1 {u w : Int32} {z : Int} (h : u < w) (hz : w.toInt = z + 1) : u.toInt ≤ z := by have := Int32.lt_iff_toInt_lt.mp h; omega
theorem own_f2 {u w : Int32} {z : Int} (h : ¬ u < w) (hz : w.toInt = z) : z ≤ u.toInt := by rw [Int32.lt_iff_toInt_lt] at h; omega
theorem own_f3 {u w : Int32} {z : Int} (h : w < u) (hz : w.toInt + 1 = z) : z ≤ u.toInt := by have := Int32.lt_iff_toInt_lt.mp h; omega
theorem own_f4 {u w : Int32} {z : Int} (h : ¬ w < u) (hz : w.toInt = z) : u.toInt ≤ z := by rw [Int32.lt_iff_toInt_lt] at h; omega
theorem own_f5 {u w : Int32} {z lo : Int} (h : ¬ u = w) (hl : lo ≤ u.toInt) (hz : w.toInt = lo ∧ z = lo + 1) : z ≤ u.toInt := by
  have : u.toInt ≠ w.toInt := fun q => h (own_i32 q)
  omega
theorem own_f6 {u w : Int32} {z hi : Int} (h : ¬ u = w) (hl : u.toInt ≤ hi) (hz : w.toInt = hi ∧ z = hi - 1) : u.toInt ≤ z := by
  have : u.toInt ≠ w.toInt := fun q => h (own_i32 q)
  omega
theorem own_i2c {v : Int32} {lo hi : Int} (h1 : lo ≤ v.toInt) (h2 : v.toInt ≤ hi) (h3 : 0 ≤ lo) (h4 : hi ≤ 65535) : v.toUInt32.toUInt16.toUInt32.toInt32 = v := by
  have h := c_i2c v
  apply own_i32
  omega
theorem own_narC {v : Int32} {lo hi : Int} (h1 : lo ≤ v.toInt) (h2 : v.toInt ≤ hi) (h3 : 0 ≤ lo) (h4 : hi ≤ 65535) : nar .char v = v := own_i2c h1 h2 h3 h4
theorem own_ch {v : Int32} {lo hi : Int} (h1 : lo ≤ v.toInt) (h2 : v.toInt ≤ hi) (h3 : 0 ≤ lo) (h4 : hi ≤ 255) : ¬ v < 0 ∧ ¬ (255 : Int32) < v := ⟨own_r2 h1 h3, own_r4 h2 h4⟩
theorem own_rem {x y : Int32} {d : Int} (hy : y.toInt = d + 1) (hd : 0 < d + 1) (hx : 0 ≤ x.toInt) : 0 ≤ (x % y).toInt ∧ (x % y).toInt ≤ d := by
  have h := (c_irem x y (d + 1) hy).1 hx
  rw [h]
  have := Int.emod_nonneg x.toInt (show d + 1 ≠ 0 by omega)
  have := Int.emod_lt_of_pos x.toInt hd
  omega
theorem own_ne {a b : Addr} {h : Heap} (h1 : a < h.size) (h2 : b = h.size) : a ≠ b := fun q => by subst q; subst h2; exact Nat.lt_irrefl _ h1
theorem own_ge {Z : State} {n0 : Nat} {h : Heap} {a : Addr} (O : Old Z n0 h) (g : a = h.size) : n0 ≤ a := by rw [g, ← O.1]; exact O.2.1
theorem own_szO {Z : State} {n0 : Nat} {h : Heap} (O : Old Z n0 h) : n0 ≤ h.size := by rw [← O.1]; exact O.2.1
theorem own_sz {h h' : Heap} {a : Addr} (q : h.size ≤ h'.size) (g : a = h'.size) : h.size ≤ a := g ▸ q
theorem own_neO {Z : State} {n0 : Nat} {h : Heap} {a b : Addr} (q : a < Z.heap.size) (O : Old Z n0 h) (r : n0 ≤ b) : a ≠ b := O.ne q r
theorem own_sta {s : State} {args : Array Value} {C n d K : String} (h : (Jvm.Cond.exactly (.static C n d) K).value args s none s [] = some true) (hi : (Jvm.Cond.initializedFor C n d).before args s = true ∨ ((Jvm.Cond.initialized C).before args s = true ∧ (Jvm.Cond.laysStatic C n d).before args s = true)) : ∃ a, (Term.static C n d).eval args s none [] s = some (.ref a) ∧ Sta s s.heap C n d (.ref a) ∧ Exa s s.heap a K := by
  obtain ⟨a, ev⟩ := exa_v h
  exact ⟨a, ev, Sta.start ev hi, Exa.start ev h⟩
theorem own_fldI {s : State} {args : Array Value} {t : Term} {C n d : String} {v : Int32} {a : Addr} (ev : t.eval args s none [] s = some (.ref a)) (h : (Jvm.Cond.eq (.field t C n d) (.int v)).value args s none s [] = some true) : Fld s s.heap a C n d (.int v) := by
  apply Fld.start
  cases hf : s.fieldOf? a C n d with
  | none => simp [Cond.value, Term.eval, ev, hf] at h
  | some x => cases x <;> simp [Cond.value, Term.eval, ev, hf] at h; subst h; rfl
theorem own_fldN {s : State} {args : Array Value} {t : Term} {C n d : String} {a : Addr} (ev : t.eval args s none [] s = some (.ref a)) (h : (Jvm.Cond.eq (.field t C n d) .null).value args s none s [] = some true) : Fld s s.heap a C n d .null := by
  apply Fld.start
  have := null_v h
  rw [fld_at ev] at this
  exact this
theorem own_fldR {s : State} {args : Array Value} {t : Term} {C n d K : String} {a : Addr} (ev : t.eval args s none [] s = some (.ref a)) (h : (Jvm.Cond.exactly (.field t C n d) K).value args s none s [] = some true) : ∃ b, (Term.field t C n d).eval args s none [] s = some (.ref b) ∧ Fld s s.heap a C n d (.ref b) ∧ Exa s s.heap b K := by
  obtain ⟨b, e2⟩ := exa_v h
  refine ⟨b, e2, Fld.start ?_, Exa.start e2 h⟩
  rw [← fld_at ev]; exact e2
section OwnK
variable {p : Program} {l : Launch} {e : Env} {R : Room} {s : State} {m : MethodId} {args : Array Value} {below : List Frame} {meth : Method} {c : Code} {T : State} {Z : State} {own mn : String} {bytes : ByteArray} {ml n0 k n : Nat} {rt : Option FieldType} {h : Heap} {G : Outcome → State → Prop} {pc q : Nat} {L : Array Slot} {st rest : List Value} {a0 : Array Value}
/-- a contract of a callee beneath which a stack trace is filled in -/
def MetK (l : Launch) (Z : State) (y : MethodName) (bytes : ByteArray) (ml : Nat) (rt : Option FieldType) (rm : Room) (as' : Array Value) (h0 : Heap) (n0 : Nat) (Q : Option Value → Heap → Prop) : Prop :=
  ∀ ws : List Jvm.Cond, MetFree l y (head1 (Jvm.Cond.code y bytes ml rt :: ws) rm) (fun a U => a = as' ∧ Z.Warmed39 U.vm ∧ U.heap = h0) (fun _ _ bl s _ => s.vm.MethodsKnown ∧ s.vm.FramesKnown bl) (fun _ U o U' => ∃ v L, o = .returned v ∧ (Fr n0 L ∧ Q v U'.heap) ∧ FrameEnd U o U' L rm.cells rm.slots)
abbrev MetK1 (l : Launch) (Z : State) (y : MethodName) (bytes : ByteArray) (ml : Nat) (rt : Option FieldType) (rm : Room) (as' : Array Value) (h0 : Heap) (n0 : Nat) (Q : Value → Heap → Prop) : Prop := MetK l Z y bytes ml rt rm as' h0 n0 (fun v h => ∃ w, v = some w ∧ Q w h)
abbrev MetK0 (l : Launch) (Z : State) (y : MethodName) (bytes : ByteArray) (ml : Nat) (rt : Option FieldType) (rm : Room) (as' : Array Value) (h0 : Heap) (n0 : Nat) (Q : Heap → Prop) : Prop := MetK l Z y bytes ml rt rm as' h0 n0 (fun v h => v = none ∧ Q h)
theorem metK_of {y : MethodName} {rm : Room} {as' : Array Value} {Q : Option Value → Heap → Prop} (hp : plainFor y = true) (hef : ∀ m, entryFrame m as' ml = mkF m 0 L [])
    (body : ∀ (p : Program) (e : Env) (s : State) (m : MethodId) (below : List Frame) (meth : Method) (c : Code) (T : State), s.vm.MethodsKnown → s.vm.FramesKnown below → s.heap = h → Cx p s m meth c Z y.cls bytes ml rt y.name → St p l e rm s m as' below meth c n0 T h 0 0 → Goes p e below (FinN Q s n0 rm.cells rm.slots) (T.setTop (mkF m 0 L []))) :
    MetK l Z y bytes ml rt rm as' h n0 Q := by
  intro ws
  refine MetFree.of_bodySF hp hisR ?_
  intro p e s m args below meth c s₁ Bd hml hP hK
  obtain ⟨rfl, hZ, hh⟩ := hP
  have e0 : s₁.heap = h := by rw [← hh, Bd.state]; rfl
  have b := body p e s m below meth c s₁ hK.1 hK.2 hh ⟨Bd.exec, hZ, findClass_of_methodNamed Bd.named, Bd.bytes, hml, Bd.returns, BodyLoose.notSynchronized Bd, (name_of_methodNamed Bd.named Bd.method).1⟩ ⟨[], 0, 0, Stand.of_body Bd, Fr.nil _, e0, Nat.le_refl _, Nat.le_refl _⟩
  rw [hef m]
  exact b
theorem g_callIK0 (C : Cx p s m meth c Z own bytes ml rt mn) (X : St p l e R s m args below meth c n0 T h k n) (hTK : s.vm.MethodsKnown) (hBL : s.vm.FramesKnown below) {rm : Room} {as' : Array Value} {bts : ByteArray} {mxl : Nat} {argsL : List Value} {ps : List FieldType} {rt' : Option FieldType} {k' n' W : Nat} {Q : Heap → Prop} {y : MethodName} {i : Nat} {a : Addr} (hy : y.cls ≠ "java/lang/invoke/MethodHandle" ∧ y.cls ≠ "java/lang/invoke/VarHandle") (hy1 : y.name = "<init>") (w1 : (Cond.methodLink own i y).before a0 Z = true) (w2 : (Cond.instanceMethod y).before a0 Z = true) (w8 : (Cond.code y bts mxl none).before a0 Z = true) (w9 : (Cond.initialized y.cls).before a0 Z = true) (hM : MetK0 l Z y bts mxl none rm as' h n0 Q) (hf : rm.frames + 1 ≤ R.frames) (hl : W + (mxl + 11) + rm.locals ≤ R.locals) (hk : k + rm.cells = k') (hn : n + rm.slots = n') (hkR : k' ≤ R.cells) (hnR : n' ≤ R.slots) (hsz : L.size = ml) (hdd : parseMethodDescriptor y.desc = some ⟨ps, rt'⟩) (hlen : argsL.length = ps.length) (hst : st = argsL.reverse ++ .ref a :: rest) (has : (.ref a :: argsL).toArray = as') (hW : (rest.map fun v => v.category).sum = W) (hd : decode bytes pc = .ok (.invokespecial i, 3)) (hq : pc + 3 = q)
    (r : ∀ T' h', St p l e R s m args below meth c n0 T' h' k' n' → Q h' → Goes p e below G (T'.setTop (mkF m q L rest))) : Goes p e below G (T.setTop (mkF m pc L st)) := by
  have bk := backOfKL (Q := fun v h L => Fr n0 L ∧ (v = none ∧ Q h)) (R := R) (p := p) (e := e) (below := below) (s := s) (args := args) (len := 3) (W := W) (hM []) C.2.1 w8 w9 hf hl hTK hBL
  refine g_callIb C X (QL := fun v h L => Fr n0 L ∧ (v = none ∧ Q h)) hy hy1 w1 w2 w8 bk hk hn hkR hnR hsz hdd hlen hst has hW hd hq ?_
  rintro v T' h' L' hX ⟨hFr, hQ⟩
  obtain ⟨rfl, hQ⟩ := hQ
  exact r T' h' (hX.resolve_right fun z => z hFr) hQ
theorem g_newU (C : Cx p s m meth c Z own bytes ml rt mn) (X : St p l e R s m args below meth c n0 T h k n) {K : String} {i z k' n' : Nat} (w : (Cond.classLink own i K).before a0 Z = true) (wi : (Cond.instantiable K z).before a0 Z = true) (wz : (Cond.initialized K).before a0 Z = true) (hd : decode bytes pc = .ok (.new i, 3)) (hq : pc + 3 = q) (hk : k + 1 = k') (hn : n + z = n') (hkR : k' ≤ R.cells) (hnR : n' ≤ R.slots)
    (r : ∀ T' h' a, a = h.size → St p l e R s m args below meth c n0 T' h' k' n' → Ext h h' → Exa Z h' a K → (∀ {O nm d : String} {ty : FieldType}, Laid Z a0 K O nm d → parseFieldDescriptor d = some ty → Fld Z h' a O nm d (defaultValue ty)) → Unt h' a → Goes p e below G (T'.setTop (mkF m q L (.ref a :: st)))) : Goes p e below G (T.setTop (mkF m pc L st)) := by
  obtain ⟨hx, hZ, hown, hby, -⟩ := C
  obtain ⟨_, _, _, X, hF, eT, h1, h2⟩ := X
  subst hq hk hn
  obtain ⟨T', h', X', e', E', A', D', U', st'⟩ := newO X hx hZ hown w wi wz eT (g := mkF m pc L st) rfl (hb hby hd) (Nat.le_trans (Nat.add_le_add_right h1 1) hkR) (Nat.le_trans (Nat.add_le_add_right h2 z) hnR)
  exact go_st st' (r T' h' _ rfl ⟨_, _, _, X', hF, e', Nat.add_le_add_right h1 1, Nat.add_le_add_right h2 z⟩ E' A' D' U')
theorem g_exc2 (C : Cx p s m meth c Z own bytes ml rt mn) (X : St p l e R s m args below meth c n0 T h k n) (hTK : s.vm.MethodsKnown) (hBL : s.vm.FramesKnown below) (hl : l.stackTraces = true) {rc : String} {ic nn W k' n' : Nat} {links : List Jvm.Free.Exc.Link} (hok : Jvm.Free.Exc.linksOk 2 links = true)
    (w1 : (Cond.methodLink own ic (Jvm.Free.Exc.ctor 2 (Jvm.Free.Exc.headName links))).before a0 Z = true) (w2 : (Cond.instanceMethod (Jvm.Free.Exc.ctor 2 (Jvm.Free.Exc.headName links))).before a0 Z = true) (wT : (Jvm.Free.Exc.chainTab 2 rc links).before a0 Z = true) (wi : (Cond.instantiable rc nn).before a0 Z = true) (r : ∀ d ∈ twoRefs, d.before a0 Z = true)
    (hT0 : ThS Z s.heap) (hT : ThS Z h) {a : Addr} (E : Exa Z h a rc) (N : Unt h a) (B : Fld Z h a "java/lang/Throwable" "backtrace" "Ljava/lang/Object;" .null) (B2 : Fld Z h a "java/lang/Throwable" "detailMessage" "Ljava/lang/String;" .null) {msg cz : Value} (hmsg : msg.isRef = true) (hcz : cz.isRef = true)
    (hf : 4 + links.length ≤ R.frames) (hlo : W + (56 + 14 * links.length) ≤ R.locals) (hk : k + 1 = k') (hn : n + 2752 = n') (hkR : k' ≤ R.cells) (hnR : n' ≤ R.slots) (hsz : L.size = ml) (hW : (rest.map fun v => v.category).sum = W) (hd : decode bytes pc = .ok (.invokespecial ic, 3)) (hq : pc + 3 = q) (ha : n0 ≤ a)
    (r' : ∀ T' h', St p l e R s m args below meth c n0 T' h' k' n' → Kp Z h h' a → Exa Z h' a rc → Goes p e below G (T'.setTop (mkF m q L rest))) : Goes p e below G (T.setTop (mkF m pc L (cz :: msg :: .ref a :: rest))) := by
  obtain ⟨hx, hZ, hown, hby, hml, -⟩ := C
  obtain ⟨_, cells, slots, X, hF, eT, h1, h2⟩ := X
  subst hq hk hn hW
  obtain ⟨T', h', X', e', K, E', -, -, -, -, st'⟩ := excL2 X hx hl hZ hown hok w1 w2 wT wi r hT0 hT hTK hBL eT E N B B2 hmsg hcz (g := mkF m pc L (cz :: msg :: .ref a :: rest)) rfl (hsz.trans hml.symm) (rest := rest) rfl (hb hby hd) hf (by show 2 * 0 + _ + _ ≤ _; omega) (Nat.le_trans (Nat.add_le_add_right h1 1) hkR) (Nat.le_trans (Nat.add_le_add_right h2 2752) hnR)
  exact go_st st' (r' T' h' ⟨_, _, _, X', Fr.six hF ha, e', Nat.add_le_add_right h1 1, Nat.add_le_add_right h2 2752⟩ K E')
end OwnK
section OwnThr
open Bundle Jvm.Free.Exc
variable {p : Program} {l : Launch} {e : Env} {R : Room} {s : State} {m : MethodId} {args : Array Value} {below : List Frame} {meth : Method} {c : Code} {T : State} {Z : State} {own mn : String} {bytes : ByteArray} {ml n0 k n : Nat} {rt : Option FieldType} {h : Heap} {G : Outcome → State → Prop} {pc q : Nat} {L : Array Slot} {st rest : List Value} {a0 : Array Value} {rc : String} {a : Addr} {u0 : Value}
/-- the table words beneath a trace that is filled in for an object of the class rc: Throwable's fields as rc lays them -/
def own_trw (rc : String) : List Jvm.Cond :=
  [.native tFill0, .instanceMethod tFill0, .selects rc tFill0 tFill0, .methodLink tN 202 tFill0,
   .instanceMethod tFill, .codeSync tFill LibCode.Throwable.Fill.code 1 (some (.object tN)), .declares tFill, .selects rc tFill tFill, .methodLink tN 27 tFill,
   .instanceMethod oInit, .code oInit ⟨#[0xb1]⟩ 1 none, .methodLink tN 1 oInit, .initialized tN, .superclass tN "java/lang/Object",
   .fieldLink tN 7 tN "cause" thD, .fieldLink tN 17 tN "stackTrace" steD, .fieldLink tN 24 tN "suppressedExceptions" listD, .fieldLink tN 198 tN "backtrace" obD,
   .lays rc tN "cause" thD, .lays rc tN "stackTrace" steD, .lays rc tN "suppressedExceptions" listD, .lays rc tN "backtrace" obD, .lays rc tN "depth" "I",
   .fieldLink tN 13 tN "UNASSIGNED_STACK" steD, .laysStatic tN "UNASSIGNED_STACK" steD, .fieldLink tN 20 tN "SUPPRESSED_SENTINEL" listD, .laysStatic tN "SUPPRESSED_SENTINEL" listD,
   .arrayOver (.object "java/lang/Object"), .soleField tN "backtrace", .soleField tN "depth"]
theorem own_trw_ok : (own_trw rc).all xOk = true := rfl
/-- the tables' links of Throwable, from a subclass's words -/
theorem own_links {pl : Platform} (hP : pl.frameOwnsMonitors = true ∧ pl.finalization = false ∧ pl.magicAccessors = ({} : Platform).magicAccessors) (w : ∀ x ∈ own_trw rc, x.before args s = true) :
    ∃ D : ThrowableC, D.Links pl s ∧ s.vm.findClass tN = some D.cT ∧ s.methodNamed? tFill = some D.fill ∧ s.methodNamed? tFill0 = some D.fill0 ∧ s.fieldFound? tN "stackTrace" steD = some (D.cT, D.kT, D.i17, D.fStack) ∧
      s.fieldFound? tN "UNASSIGNED_STACK" steD = some (D.cT, D.kT, D.i13, D.fUnassigned) ∧ D.fStack.type = .array (.object "java/lang/StackTraceElement") := by
  obtain ⟨hP1, hP2, hP3⟩ := hP
  obtain ⟨⟨cT, j0⟩, nat, nat1, nat2, nat3, nat4, nat5, nat6⟩ := Cond.native_spec (show (Cond.native tFill0).holds args s none s [] = true from w _ (by simp [own_trw]))
  have fT : s.vm.findClass tN = some cT := findClass_of_methodNamed nat1
  obtain ⟨kT, kT1, kT2⟩ := Vm.findClass_spec fT
  have kI := Cond.initialized_spec (args := args) (first := s) (o := none) (idx := []) fT kT1 (w _ (by simp [own_trw]))
  obtain ⟨_, kT', _, _, sp1, _, _, sp2, _, sp3⟩ := Cond.superclass_spec (args := args) (first := s) (o := none) (idx := []) (sup := "java/lang/Object") fT (w _ (by simp [own_trw]))
  obtain rfl : kT = kT' := Option.some.inj (kT1.symm.trans sp1)
  obtain ⟨jF, mF, mF1, mF2, mF3, mF4, mF5, -, -⟩ := Cond.ownMethod (args := args) (first := s) (o := none) (idx := []) (x := tFill) fT kT1 (w _ (by simp [own_trw]))
  obtain ⟨mF', cF, cF1, cF2, cF3, cF4, cF5, cF6, -, cF7⟩ := Cond.codeSync_spec (args := args) (first := s) (o := none) (idx := []) (bytes := LibCode.Throwable.Fill.code) (maxLocals := 1) (ret := some (.object tN)) mF1 (w _ (by simp [own_trw]))
  obtain rfl : mF = mF' := Option.some.inj (mF2.symm.trans cF1)
  obtain ⟨j0', nat', mN1, mN2, mN3, mN4, mN5, mN6, mN7⟩ := Cond.ownMethod (args := args) (first := s) (o := none) (idx := []) (x := tFill0) fT kT1 (w _ (by simp [own_trw]))
  obtain rfl : j0 = j0' := by have := Option.some.inj (nat1.symm.trans mN1); simpa using this
  obtain rfl : nat = nat' := Option.some.inj (nat2.symm.trans mN2)
  obtain ⟨mO, oO, oO1, oO2, oO3, oO4⟩ := Cond.instanceMethod_spec (args := args) (first := s) (o := none) (idx := []) (x := oInit) (w _ (by simp [own_trw]))
  obtain ⟨oO', cO, cO1, cO2, cO3, -, -, cO4, -, cO5⟩ := Cond.code_spec (args := args) (first := s) (o := none) (idx := []) (bytes := ⟨#[0xb1]⟩) (maxLocals := 1) (ret := none) oO1 (w _ (by simp [own_trw]))
  obtain rfl : oO = oO' := Option.some.inj (oO2.symm.trans cO1)
  obtain ⟨kO, kO1, kO2⟩ := Vm.findClass_spec (findClass_of_methodNamed oO1)
  obtain ⟨oN, oD⟩ := name_of_methodNamed oO1 oO2
  obtain ⟨x1, y1, cf, l1, r1, f1, p1⟩ := Cond.linkedMethod (args := args) (first := s) (o := none) (idx := []) (index := 1) fT kT1 oO1 (w _ (by simp [own_trw])) pl hP3
  obtain ⟨x2, y2, cf2, l2, r2, f2, p2⟩ := Cond.linkedMethod (args := args) (first := s) (o := none) (idx := []) (index := 27) fT kT1 mF1 (w _ (by simp [own_trw])) pl hP3
  obtain rfl : cf = cf2 := Option.some.inj (f1.symm.trans f2)
  obtain ⟨x3, y3, cf3, l3, r3, f3, p3⟩ := Cond.linkedMethod (args := args) (first := s) (o := none) (idx := []) (index := 202) fT kT1 nat1 (w _ (by simp [own_trw])) pl hP3
  obtain rfl : cf = cf3 := Option.some.inj (f1.symm.trans f3)
  have inst : ∀ {f d : String} {i : Nat} {t : FieldType}, parseFieldDescriptor d = some t → Cond.fieldLink tN i tN f d ∈ own_trw rc → Cond.lays rc tN f d ∈ own_trw rc → _ := fun {f d i t} e1 e2 e3 => Cond.ownField (args := args) (first := s) (o := none) (idx := []) (C := tN) (C' := rc) (name := f) (desc := d) (index := i) (t := t) fT kT1 e1 (w _ e2) (w _ e3) pl hP3
  obtain ⟨zc, ic, gc, c1, c2, c3, c4, c5, -⟩ := inst (f := "cause") (d := thD) (i := 7) (t := .object "java/lang/Throwable") (by decide +kernel) (by simp [own_trw]) (by simp [own_trw])
  obtain ⟨zk, ik, gk, k1, k2, k3, k4, k5, k6, k7, k8⟩ := inst (f := "stackTrace") (d := steD) (i := 17) (t := .array (.object "java/lang/StackTraceElement")) (by decide +kernel) (by simp [own_trw]) (by simp [own_trw])
  obtain ⟨zp, ip, gp, q1, q2, q3, q4, q5, q6, -, q8⟩ := inst (f := "suppressedExceptions") (d := listD) (i := 24) (t := .object "java/util/List") (by decide +kernel) (by simp [own_trw]) (by simp [own_trw])
  obtain ⟨zu, iu, gu, aS, _, u1, u2, u3, u4, -, -, u5, -, -, -, -, u6⟩ := Cond.ownStatic (args := args) (first := s) (o := none) (idx := []) (index := 13) (name := "UNASSIGNED_STACK") (desc := steD) (t := .array (.object "java/lang/StackTraceElement")) fT kT1 (by decide +kernel) (w _ (by simp [own_trw])) (w _ (by simp [own_trw])) pl hP3
  obtain ⟨zn, jn, gn, _, _, v1, v2, v3, v4, -⟩ := Cond.ownStatic (args := args) (first := s) (o := none) (idx := []) (index := 20) (name := "SUPPRESSED_SENTINEL") (desc := listD) (t := .object "java/util/List") fT kT1 (by decide +kernel) (w _ (by simp [own_trw])) (w _ (by simp [own_trw])) pl hP3
  obtain ⟨cR, kR, _, _, _, _, fR, kR1, -⟩ := Cond.lays_spec (show (Cond.lays rc tN "stackTrace" steD).holds args s none s [] = true from w _ (by simp [own_trw]))
  obtain ⟨-, d1, e1, e2⟩ := Cond.laysAt (args := args) (first := s) (o := none) (idx := []) fR kR1 k8 (w _ (by simp [own_trw]))
  obtain ⟨-, d2, e3, e4⟩ := Cond.laysAt (args := args) (first := s) (o := none) (idx := []) fR kR1 q8 (w _ (by simp [own_trw]))
  have apart : gk.slot ≠ gp.slot := Cond.laysApart e1 e3 e2 e4 (by rw [k6, q6]; decide)
  have pF : mF.sig.parameters = [] := by
    have hh : (parseMethodDescriptor tFill.desc).map (·.parameters) = some [] := by decide +kernel
    rw [cF7] at hh; exact Option.some.inj hh
  have pN : nat.sig.parameters = [.int] := by
    have hh : (parseMethodDescriptor tFill0.desc).map (·.parameters) = some [.int] := by decide +kernel
    rw [nat6] at hh; exact Option.some.inj hh
  have pO : oO.sig.parameters.length = 0 := by
    have hh : (parseMethodDescriptor oInit.desc).map (·.parameters) = some [] := by decide +kernel
    rw [cO5] at hh; rw [show oO.sig.parameters = [] from Option.some.inj hh]; rfl
  refine ⟨⟨⟨cT, kT, cT, aS, jF, j0, jF, mO, kO, mF, nat, mF, oO, cF, cF, cO, gc, gc, gk, gc, gp, gc, gu, gn⟩, cf, x1, y1, x2, y2, x3, y3, zc, ic, zu, iu, zk, ik, zn, jn, zp, ip⟩, ?_, fT, mF1, nat1, k8, u6, k7⟩
  have kB := Vm.findClass_boot fT kT1
  have oF : lookupSpecial s.vm mO.cls "<init>" oO.desc = .method mO := by rw [oD]; exact lookupSpecial_of_named oO1 oO2 oO3
  constructor <;> assumption
/-- invokevirtual fillInStackTrace() on an object that the walk has made: its three fields of the trace may differ behind it, nothing else of it -/
theorem own_fill (C : Cx p s m meth c Z tN bytes ml rt mn) {locs : List Loc} {cells slots : Nat} (X : Stand p l e R s m args below meth c T locs cells slots) (eT : T.heap = h) (hTK : s.vm.MethodsKnown) (hBL : s.vm.FramesKnown below) (hl : l.stackTraces = true) (w : ∀ x ∈ own_trw rc, x.before a0 Z = true)
    (hT0 : ThS Z s.heap) {nn : Nat} (wi : (Cond.instantiable rc nn).before a0 Z = true) (E : Exa Z h a rc) (N : Unt h a) (S : Sta Z h tN "UNASSIGNED_STACK" steD u0) (hu : u0.isRef = true) (F : Fld Z h a tN "stackTrace" steD u0) (B : Fld Z h a tN "backtrace" obD .null)
    (hsz : L.size = ml) (hd : decode bytes pc = .ok (.invokevirtual 27, 3)) (hf : 3 ≤ R.frames) (hlo : (rest.map fun v => v.category).sum + 42 ≤ R.locals) (hce : cells + 1 ≤ R.cells) (hsl : slots + 2752 ≤ R.slots) :
    ∃ (T' : State) (Lo : List Loc) (n' : Nat) (C0 C1 : Cell), Stand p l e R s m args below meth c T' (locs ++ Lo) (cells + 1) (slots + n') ∧ n' ≤ 2752 ∧ (∀ y ∈ Lo, y.base = a) ∧ h[a]? = some C0 ∧ T'.heap[a]? = some C1 ∧ C1.cls = C0.cls ∧ C1.vm = C0.vm ∧ C1.slots.size = C0.slots.size ∧
      (∀ i, i ≠ Jvm.RoadKit.slotOf Z tN "backtrace" obD → i ≠ Jvm.RoadKit.slotOf Z tN "depth" "I" → i ≠ Jvm.RoadKit.slotOf Z tN "stackTrace" steD → C1.slots[i]? = C0.slots[i]?) ∧ Steps p.tables e below (T.setTop (mkF m pc L (.ref a :: rest))) (T'.setTop (mkF m (pc + 3) L (.ref a :: rest))) := by
  obtain ⟨hx, hZ, hown, hby, hml, -⟩ := C
  have hal := hZ.alike
  have ws : ∀ x ∈ own_trw rc, x.before args s = true := fun x hx => mvX hT0 hZ (List.all_eq_true.mp own_trw_ok x hx) (w x hx)
  obtain ⟨D, LD, fT, nF, nN, fS, fU, tS⟩ := own_links (rc := rc) (pl := e.platform) (args := args) (s := s) ⟨by rw [X.admits.platform], by rw [X.admits.platform], by rw [X.admits.platform]⟩ ws
  obtain ⟨cell, kZ, E1, E2, E3, E4, E5⟩ := E
  obtain ⟨cell', N1, N2, N3⟩ := N
  cases E1.symm.trans N1
  obtain ⟨cI, kI, I1, I2, I3, -⟩ := Cond.instantiable_spec wi
  cases E2.symm.trans I1
  cases E3.symm.trans I2
  obtain ⟨kX, X1, X2⟩ := hal.2.2 _ _ E3
  have X3 : s.vm.findClass rc = some cell.cls := by rw [hal.findClass]; exact E2
  have X4 : kX.kind = .ordinary := by rw [X2]; exact I3
  have X5 : cell.slots.size = kX.instanceTypes.size := by rw [X2]; exact E5 I3
  have takes : ∀ {f : Field} {v : Value}, kX.instanceTypes[f.slot]? = some f.type → fits f.type v = true → Jvm.Takes s cell f v := fun {f v} e1 e2 => by
    obtain ⟨e3, e4⟩ := Takes.of_laid (v := v) X1 X4 e1 e2
    exact ⟨by rw [X5]; simpa using e3, by rw [N2]; exact e4⟩
  -- the receiver's fields
  obtain ⟨_, _, kk, ii, gS, F1, F2, -, -, -, -, F7⟩ := F
  cases E1.symm.trans F1
  obtain ⟨k', F3, -⟩ := State.fieldFound?_setVm (s := Z) hal F2
  cases (show s.fieldFound? tN "stackTrace" steD = _ from F3).symm.trans fS
  obtain ⟨_, _, _, iB, gB, B1, B2, -, -, -, -, B7⟩ := B
  cases E1.symm.trans B1
  obtain ⟨k'', B3, -⟩ := State.fieldFound?_setVm (s := Z) hal B2
  have hpl : e.platform.magicAccessors = ({} : Platform).magicAccessors := by rw [X.admits.platform]
  obtain ⟨zb, ib, gb, b1, b2, b3, b4, -, b6, b7, b8⟩ := Cond.ownField (args := args) (first := s) (o := none) (idx := []) (C := tN) (C' := rc) (name := "backtrace") (desc := obD) (index := 198) (t := .object "java/lang/Object") fT LD.cls (by decide +kernel) (ws _ (by simp [own_trw])) (ws _ (by simp [own_trw])) e.platform hpl
  cases (show s.fieldFound? tN "backtrace" obD = _ from B3).symm.trans b8
  obtain ⟨_, _, cd, kd, id_, gd, -, -, d3, d4, -⟩ := Cond.lays_spec (show (Cond.lays rc tN "depth" "I").holds args s none s [] = true from ws _ (by simp [own_trw]))
  cases Option.some.inj ((Cond.lays_declared (show (Cond.lays rc tN "depth" "I").holds args s none s [] = true from ws _ (by simp [own_trw])) d3).symm.trans fT)
  obtain ⟨d5, d6⟩ := State.fieldFound?_spec d3
  cases Option.some.inj (d5.symm.trans LD.cls)
  obtain ⟨d7, d8⟩ := State.fieldFound?_type d3 (t := .int) (by decide +kernel)
  have fb := Cond.soleField_find (args := args) (first := s) (o := none) (idx := []) fT LD.cls (ws (.soleField tN "backtrace") (by simp [own_trw])) b3 b6 b4
  have fd := Cond.soleField_find (args := args) (first := s) (o := none) (idx := []) fT LD.cls (ws (.soleField tN "depth") (by simp [own_trw])) d6 d7 d4
  obtain ⟨comp, cO, kO, -, -, O1, O2, O3⟩ := Cond.arrayOver_spec (ws (.arrayOver (.object "java/lang/Object")) (by simp [own_trw]))
  have tyS := (Cond.laysAt (args := args) (first := s) (o := none) (idx := []) X3 X1 fS (ws (.lays rc tN "stackTrace" steD) (by simp [own_trw]))).1
  have tyB := (Cond.laysAt (args := args) (first := s) (o := none) (idx := []) X3 X1 b8 (ws (.lays rc tN "backtrace" obD) (by simp [own_trw]))).1
  have tyD := (Cond.laysAt (args := args) (first := s) (o := none) (idx := []) X3 X1 d3 (ws (.lays rc tN "depth" "I") (by simp [own_trw]))).1
  -- the statics
  obtain ⟨_, _, kS, gU, sS, cellS, S1, -, -, S4, S5, S6, S7⟩ := S
  obtain ⟨k3, S8, S9⟩ := State.fieldFound?_setVm (s := Z) hal S1
  cases (show s.fieldFound? tN "UNASSIGNED_STACK" steD = _ from S8).symm.trans fU
  have S10 : D.kT.statics = some sS := by rw [S9]; exact S4
  cases Option.some.inj (S10.symm.trans LD.statics)
  have neS : D.aS ≠ a := fun z => by
    rw [z, E1] at S5
    rw [← Option.some.inj S5, E4] at S6
    cases S6
  have sel0 : selectMethod e.platform s.vm cell.cls D.fill0 = .method D.fill0 := by
    obtain ⟨_, _, _, z1, z2, z3, z4, -⟩ := Cond.selects_spec (show (Cond.selects rc tFill0 tFill0).holds args s none s [] = true from ws _ (by simp [own_trw]))
    cases Option.some.inj (z1.symm.trans X3)
    cases Option.some.inj (z2.symm.trans (State.methodFound?_of_named nN (by decide)))
    cases Option.some.inj (z3.symm.trans nN)
    rw [Launch.admits_selectMethod X.admits]; exact z4
  have hSE := ws (.selects rc tFill tFill) (by simp [own_trw])
  subst hby hml
  obtain ⟨v6, vm6, ⟨T6, L6, c6, n6⟩, -, X6, ⟨rfl, C6, n', hn, hD, q1, q2, q3, q4, rfl, rfl, rfl⟩, go⟩ := X.virtualBack hx (own := tN) (C := rc) (index := 27) (y := tFill) (z := tFill) hown (ws _ (by simp [own_trw])) (ws _ (by simp [own_trw])) (notFace_of_selects hSE) hSE (ws _ (by simp [own_trw])) (by decide)
    (fillPaysAny (l := l) (W := (rest.map fun v => v.category).sum) hx (by rw [X.admits.platform]; exact hl) D LD nF (u0 := ⟨u0, hu⟩) (self := a) (cell := cell) (cellS := cellS) (fun _ => by rw [N2]; simp) (by rw [N2]; simp) (by rw [N3]) (by rw [N3]) F7 sel0 neS (by intro z; rw [z] at S6; cases S6) S7 (takes tyS (by rw [tS]; exact fits_refV_array _ ⟨u0, hu⟩))
      ⟨{ ci198 := zb, i198 := iB, fBack := gB }, ⟨b1, b2, b3, b4⟩, B7⟩ hTK hBL fT O3 O1 O2 fb fd (fun x => takes tyB (by rw [b7]; rfl)) (fun x => takes tyD (by rw [d8]; rfl)) (by omega) (by omega))
    (b := a) (cB := cell.cls) X3 ⟨cell, by rw [eT]; exact E1, rfl, by rw [N2]; rfl⟩ (g := mkF m pc L (.ref a :: rest)) rfl hsz (Steps.refl _) (argsL := []) (rest := rest)
    (fun sig hs => by rw [show parseMethodDescriptor tFill.desc = some ⟨[], some (.object tN)⟩ from by decide +kernel] at hs; rw [← Option.some.inj hs]; rfl) rfl (by show 2 * 0 + _ ≤ _; omega) hd
    (fun vmx hWx => ⟨rfl, hce, hsl, by show T.heap[a]? = _; rw [eT]; exact E1, by show T.heap[D.aS]? = _; rw [eT]; exact S5⟩)
  have sb : Jvm.RoadKit.slotOf Z tN "backtrace" obD = gB.slot := by simp [Jvm.RoadKit.slotOf, B2]
  have ss : Jvm.RoadKit.slotOf Z tN "stackTrace" steD = D.fStack.slot := by simp [Jvm.RoadKit.slotOf, F2]
  have sd : Jvm.RoadKit.slotOf Z tN "depth" "I" = gd.slot := by
    obtain ⟨_, _, _, z⟩ := Jvm.Free.BdW.found_ride (U := s) (U' := Z) hal.symm ⟨_, _, _, d3⟩
    simp [Jvm.RoadKit.slotOf, z]
  refine ⟨T6, _, n', cell, C6, X6, hn, ?_, E1, hD, q1, q2, q3, fun i z1 z2 z3 => q4 i (sb ▸ z1) (sd ▸ z2) (ss ▸ z3), go⟩
  intro y hy
  simp only [List.mem_cons, List.not_mem_nil, or_false] at hy
  rcases hy with rfl | rfl | rfl <;> rfl
/-- as St, where all that was written lies in the one object a -/
def Sb (p : Program) (l : Launch) (e : Env) (R : Room) (s : State) (m : MethodId) (args : Array Value) (below : List Frame) (meth : Method) (c : Code) (a : Addr) (T : State) (h : Heap) (k n : Nat) : Prop :=
  ∃ locs cells slots, Stand p l e R s m args below meth c T locs cells slots ∧ (∀ y ∈ locs, y.base = a) ∧ T.heap = h ∧ cells ≤ k ∧ slots ≤ n
theorem Sb.toSt (ge : n0 ≤ a) (X : Sb p l e R s m args below meth c a T h k n) : St p l e R s m args below meth c n0 T h k n := by
  obtain ⟨x1, x2, x3, x4, x5, x6⟩ := X; exact ⟨x1, x2, x3, x4, fun y hy => by rw [x5 y hy]; exact ge, x6⟩
theorem Sb.keep {h0 : Heap} (hs : s.heap = h0) (X : Sb p l e R s m args below meth c a T h k n) : Keep h0 h [a] := by
  obtain ⟨locs, _, _, X, hL, rfl, -, -⟩ := X
  subst hs
  obtain ⟨-, z1, -, -, -, z2⟩ := X.same
  refine ⟨z1, fun x cx q hx => ?_, fun x cx q => ?_⟩
  · obtain ⟨c', y1, y2, y3, y4⟩ := z2 x cx q
    have : c'.slots = cx.slots := Array.ext_getElem? fun i => y4 i fun hm => hx (by rw [← hL _ hm]; exact List.mem_singleton.mpr rfl)
    rw [y2, this] at y1; exact y1
  · obtain ⟨c', y1, y2, y3, -⟩ := z2 x cx q
    exact ⟨c', y1, by rw [y2], by rw [y2], y3⟩
theorem b_initO (C : Cx p s m meth c Z own bytes ml rt mn) (X : Sb p l e R s m args below meth c a T h k n) {i : Nat} {a1 : Addr} (w1 : (Cond.methodLink own i Lib.objectInit).before a0 Z = true) (w2 : (Cond.instanceMethod Lib.objectInit).before a0 Z = true) (w3 : (Cond.code Lib.objectInit ⟨#[0xb1]⟩ 1 none).before a0 Z = true) (hsz : L.size = ml) (hd : decode bytes pc = .ok (.invokespecial i, 3)) (hq : pc + 3 = q) (hf : 1 ≤ R.frames) (hW : (st.map fun v => v.category).sum + 12 ≤ R.locals)
    (r : ∀ T', Sb p l e R s m args below meth c a T' h k n → Goes p e below G (T'.setTop (mkF m q L st))) : Goes p e below G (T.setTop (mkF m pc L (.ref a1 :: st))) := by
  obtain ⟨hx, hZ, hown, hby, hml, -⟩ := C
  obtain ⟨_, _, _, X, hF, eT, h1, h2⟩ := X
  subst hq
  obtain ⟨T', X', e', st'⟩ := initO X hx hZ hown w1 w2 w3 eT (g := mkF m pc L (.ref a1 :: st)) rfl (hsz.trans hml.symm) rfl (hb hby hd) hf (W := (st.map fun v => v.category).sum) (by show 2 * 0 + _ ≤ _; omega) hW
  exact go_st st' (r T' ⟨_, _, _, X', hF, e', h1, h2⟩)
theorem b_getS (C : Cx p s m meth c Z own bytes ml rt mn) (X : Sb p l e R s m args below meth c a T h k n) {R0 O f d host : String} {i : Nat} {v : Value} (w : (Cond.fieldLink own i R0 f d).before a0 Z = true ∨ (Cond.fieldLinkNest own i R0 f d host).before a0 Z = true) (via : Via Z R0 O f d) (F : Sta Z h O f d v) (hd : decode bytes pc = .ok (.getstatic i, 3)) (hq : pc + 3 = q) (r : ∀ T', Sb p l e R s m args below meth c a T' h k n → Goes p e below G (T'.setTop (mkF m q L (v :: st)))) : Goes p e below G (T.setTop (mkF m pc L st)) := by
  obtain ⟨hx, hZ, hown, hby, -⟩ := C
  obtain ⟨_, _, _, X, hF, eT, h1, h2⟩ := X
  subst hq
  obtain ⟨T', X', e', st'⟩ := getS2 X hx hZ hown w via eT F (g := mkF m pc L st) rfl (hb hby hd)
  exact go_st st' (r T' ⟨_, _, _, X', hF, e', h1, h2⟩)
theorem b_putF (C : Cx p s m meth c Z own bytes ml rt mn) (X : Sb p l e R s m args below meth c a T h k n) {R0 O f d host K : String} {i kk : Nat} {ty : FieldType} {v old : Value} (w : (Cond.fieldLink own i R0 f d).before a0 Z = true ∨ (Cond.fieldLinkNest own i R0 f d host).before a0 Z = true) (via : Via Z R0 O f d) (F : Fld Z h a O f d old) (E : Exa Z h a K) (Ly : (Cond.lays K O f d).before a0 Z = true ∨ ((Cond.laysFinal K O f d).before a0 Z = true ∧ own = O ∧ mn = "<init>")) (wi : (Cond.instantiable K kk).before a0 Z = true)
    (hty : parseFieldDescriptor d = some ty) (hnn : narrow ty v = v) (hff : fits ty v = true) (hd : decode bytes pc = .ok (.putfield i, 3)) (hq : pc + 3 = q) (r : ∀ T' h', Sb p l e R s m args below meth c a T' h' k n → Wr h h' a (Jvm.RoadKit.slotOf Z O f d) v → Goes p e below G (T'.setTop (mkF m q L st))) : Goes p e below G (T.setTop (mkF m pc L (v :: .ref a :: st))) := by
  obtain ⟨hx, hZ, hown, hby, -, -, -, hnm⟩ := C
  obtain ⟨_, _, _, X, hF, eT, h1, h2⟩ := X
  subst hq
  obtain ⟨T', h', X', e', W', st'⟩ := putF X hx hZ hown w via eT F E (Ly.imp id fun z => ⟨z.1, z.2.1, hnm.trans z.2.2⟩) wi hty hnn hff (g := mkF m pc L (v :: .ref a :: st)) rfl rfl (hb hby hd)
  refine go_st st' (r T' h' ⟨_, _, _, X', fun y hy => ?_, e', h1, h2⟩ W')
  rcases List.mem_append.mp hy with hy | hy
  · exact hF y hy
  · rw [List.mem_singleton.mp hy]
theorem own_exaC {h' : Heap} {C0 C1 : Cell} (q0 : h[a]? = some C0) (q1 : h'[a]? = some C1) (e1 : C1.cls = C0.cls) (e2 : C1.vm = C0.vm) (e3 : C1.slots.size = C0.slots.size) (E : Exa Z h a rc) : Exa Z h' a rc := by
  obtain ⟨cell, k, E1, E2, E3, E4, E5⟩ := E
  cases E1.symm.trans q0
  exact ⟨C1, k, q1, by rw [e1]; exact E2, by rw [e1]; exact E3, by rw [e2]; exact E4, fun z => by rw [e3]; exact E5 z⟩
theorem own_fldC {h' : Heap} {C0 C1 : Cell} {O F d : String} {v : Value} (q0 : h[a]? = some C0) (q1 : h'[a]? = some C1) (e1 : C1.cls = C0.cls) (e2 : C1.vm = C0.vm) (e3 : C1.slots[Jvm.RoadKit.slotOf Z O F d]? = C0.slots[Jvm.RoadKit.slotOf Z O F d]?) (Fd : Fld Z h a O F d v) : Fld Z h' a O F d v := by
  obtain ⟨cell, cf, k, i, f, F1, F2, F3, F4, F5, F6, F7⟩ := Fd
  cases F1.symm.trans q0
  refine ⟨C1, cf, k, i, f, q1, F2, F3, by rw [e2]; exact F4, by rw [e2]; exact F5, by rw [e1]; exact F6, ?_⟩
  have z : Jvm.RoadKit.slotOf Z O F d = f.slot := by simp [Jvm.RoadKit.slotOf, F2]
  rw [z] at e3; rw [e3]; exact F7
theorem metKb_of {y : MethodName} {rm : Room} {as' : Array Value} {Q : Option Value → Heap → Prop} (hp : plainFor y = true) (hef : ∀ m, entryFrame m as' ml = mkF m 0 L [])
    (body : ∀ (p : Program) (e : Env) (s : State) (m : MethodId) (below : List Frame) (meth : Method) (c : Code) (T : State), s.vm.MethodsKnown → s.vm.FramesKnown below → s.heap = h → Cx p s m meth c Z y.cls bytes ml rt y.name → Sb p l e rm s m as' below meth c a T h 0 0 → Goes p e below (FinN Q s n0 rm.cells rm.slots) (T.setTop (mkF m 0 L []))) :
    MetK l Z y bytes ml rt rm as' h n0 Q := by
  intro ws
  refine MetFree.of_bodySF hp hisR ?_
  intro p e s m args below meth c s₁ Bd hml hP hK
  obtain ⟨rfl, hZ, hh⟩ := hP
  have e0 : s₁.heap = h := by rw [← hh, Bd.state]; rfl
  have b := body p e s m below meth c s₁ hK.1 hK.2 hh ⟨Bd.exec, hZ, findClass_of_methodNamed Bd.named, Bd.bytes, hml, Bd.returns, BodyLoose.notSynchronized Bd, (name_of_methodNamed Bd.named Bd.method).1⟩ ⟨[], 0, 0, Stand.of_body Bd, (fun _ z => by cases z), e0, Nat.le_refl _, Nat.le_refl _⟩
  rw [hef m]
  exact b
/-- Throwable.<init>(String, Throwable) on a fresh object of the class rc -/
theorem own_tinit {rm : Room} {h0 : Heap} {msg cz sn : Value} {O F d : String} {nn : Nat} {vF : Value} (hl : l.stackTraces = true) (w : ∀ x ∈ own_trw rc, x.before a0 Z = true) (wm : (Cond.fieldLink tN 31 tN "detailMessage" msgD).before a0 Z = true) (wl : (Cond.lays rc tN "detailMessage" msgD).before a0 Z = true) (wi : (Cond.instantiable rc nn).before a0 Z = true)
    (TH : ThS Z h0) (SU : Sta Z h0 tN "UNASSIGNED_STACK" steD u0) (SS : Sta Z h0 tN "SUPPRESSED_SENTINEL" listD sn) (hu : u0.isRef = true) (hsn : sn.isRef = true) (hmsg : msg.isRef = true) (hcz : cz.isRef = true) (E : Exa Z h0 a rc) (N : Unt h0 a) (B : Fld Z h0 a tN "backtrace" obD .null)
    (FF : Fld Z h0 a O F d vF) (six : ∀ nd ∈ sixNames, Jvm.RoadKit.slotOf Z tN nd.1 nd.2 ≠ Jvm.RoadKit.slotOf Z O F d) (ge : n0 ≤ a) (hf : 3 ≤ rm.frames) (hlo : 42 ≤ rm.locals) (hce : 1 ≤ rm.cells) (hsl : 2752 ≤ rm.slots) :
    MetK0 l Z ⟨"java/lang/Throwable", "<init>", "(Ljava/lang/String;Ljava/lang/Throwable;)V"⟩ jdk_78_method_3_code 3 none rm #[.ref a, msg, cz] h0 n0 (fun h => Keep h0 h [a] ∧ Exa Z h a rc ∧ Fld Z h a O F d vF) := by
  have oR : ∀ {v : Value} {t : String}, v.isRef = true → fits (.object t) v = true := fun {v t} z => fits_refV_object _ ⟨v, z⟩
  refine metKb_of (L := #[.val (.ref a), .val msg, .val cz]) (a := a) (by decide) (fun m => by (cases msg <;> first | exact absurd hmsg Bool.false_ne_true | skip) <;> (cases cz <;> first | exact absurd hcz Bool.false_ne_true | skip) <;> first | (simp [entryFrame, mkF, argsToLocals, Value.category]; done) | rfl) ?_
  intro p e s m below meth c T hTK hBL hsh C X
  change Cx p s m meth c Z "java/lang/Throwable" jdk_78_method_3_code 3 none "<init>" at C
  refine g_aloadN C (X.toSt ge) (by decide +kernel : decode jdk_78_method_3_code 0 = .ok (.aload_n 0, 1)) (q := 1) rfl rfl rfl ?_
  refine b_initO C X (w (.methodLink tN 1 oInit) (by simp [own_trw])) (w (.instanceMethod oInit) (by simp [own_trw])) (w (.code oInit ⟨#[0xb1]⟩ 1 none) (by simp [own_trw])) rfl (by decide +kernel : decode jdk_78_method_3_code 1 = .ok (.invokespecial 1, 3)) (q := 4) rfl (by omega) (by simp; omega) ?_
  intro T1 X1
  refine g_aloadN C (X1.toSt ge) (by decide +kernel : decode jdk_78_method_3_code 4 = .ok (.aload_n 0, 1)) (q := 5) rfl rfl rfl ?_
  refine g_aloadN C (X1.toSt ge) (by decide +kernel : decode jdk_78_method_3_code 5 = .ok (.aload_n 0, 1)) (q := 6) rfl rfl rfl ?_
  obtain ⟨_, Fc⟩ := fld_laid E N.known wi (Or.inl (w (.lays rc tN "cause" thD) (by simp [own_trw])))
  refine b_putF C X1 (host := "") (Or.inl (w (.fieldLink tN 7 tN "cause" thD) (by simp [own_trw]))) Via.refl Fc E (Or.inl (w _ (by simp [own_trw]))) wi (ty := .object "java/lang/Throwable") (by decide +kernel) rfl rfl (by decide +kernel : decode jdk_78_method_3_code 6 = .ok (.putfield 7, 3)) (q := 9) rfl ?_
  intro T2 h1 X2 W1
  have E1 := E.wr W1
  have N1 := N.wr W1
  have FF1 := FF.other W1 (Or.inr (six ("cause", thD) (by simp [sixNames])).symm)
  have B1 := B.other W1 (Or.inr (slot_ne (C := rc) (Or.inl (w (.lays rc tN "backtrace" obD) (by simp [own_trw]))) (Or.inl (w (.lays rc tN "cause" thD) (by simp [own_trw]))) (by decide) (t := .object "java/lang/Object") (t' := .object "java/lang/Throwable") (by decide +kernel) (by decide +kernel)))
  refine g_aloadN C (X2.toSt ge) (by decide +kernel : decode jdk_78_method_3_code 9 = .ok (.aload_n 0, 1)) (q := 10) rfl rfl rfl ?_
  refine b_getS C X2 (host := "") (Or.inl (w (.fieldLink tN 13 tN "UNASSIGNED_STACK" steD) (by simp [own_trw]))) Via.refl (SU.wr W1) (by decide +kernel : decode jdk_78_method_3_code 10 = .ok (.getstatic 13, 3)) (q := 13) rfl ?_
  intro T3 X3
  obtain ⟨_, Fk⟩ := fld_laid E1 N1.known wi (Or.inl (w (.lays rc tN "stackTrace" steD) (by simp [own_trw])))
  refine b_putF C X3 (host := "") (Or.inl (w (.fieldLink tN 17 tN "stackTrace" steD) (by simp [own_trw]))) Via.refl Fk E1 (Or.inl (w _ (by simp [own_trw]))) wi (ty := .array (.object "java/lang/StackTraceElement")) (by decide +kernel) (narrow_isRef _ hu) (fits_refV_array _ ⟨u0, hu⟩) (by decide +kernel : decode jdk_78_method_3_code 13 = .ok (.putfield 17, 3)) (q := 16) rfl ?_
  intro T4 h2 X4 W2
  have E2 := E1.wr W2
  have N2 := N1.wr W2
  have FF2 := FF1.other W2 (Or.inr (six ("stackTrace", steD) (by simp [sixNames])).symm)
  have B2 := B1.other W2 (Or.inr (slot_ne (C := rc) (Or.inl (w (.lays rc tN "backtrace" obD) (by simp [own_trw]))) (Or.inl (w (.lays rc tN "stackTrace" steD) (by simp [own_trw]))) (by decide) (t := .object "java/lang/Object") (t' := .array (.object "java/lang/StackTraceElement")) (by decide +kernel) (by decide +kernel)))
  have K2 := Fk.same W2
  refine g_aloadN C (X4.toSt ge) (by decide +kernel : decode jdk_78_method_3_code 16 = .ok (.aload_n 0, 1)) (q := 17) rfl rfl rfl ?_
  refine b_getS C X4 (host := "") (Or.inl (w (.fieldLink tN 20 tN "SUPPRESSED_SENTINEL" listD) (by simp [own_trw]))) Via.refl ((SS.wr W1).wr W2) (by decide +kernel : decode jdk_78_method_3_code 17 = .ok (.getstatic 20, 3)) (q := 20) rfl ?_
  intro T5 X5
  obtain ⟨_, Fp⟩ := fld_laid E2 N2.known wi (Or.inl (w (.lays rc tN "suppressedExceptions" listD) (by simp [own_trw])))
  refine b_putF C X5 (host := "") (Or.inl (w (.fieldLink tN 24 tN "suppressedExceptions" listD) (by simp [own_trw]))) Via.refl Fp E2 (Or.inl (w _ (by simp [own_trw]))) wi (ty := .object "java/util/List") (by decide +kernel) (narrow_isRef _ hsn) (oR hsn) (by decide +kernel : decode jdk_78_method_3_code 20 = .ok (.putfield 24, 3)) (q := 23) rfl ?_
  intro T6 h3 X6 W3
  have E3 := E2.wr W3
  have N3 := N2.wr W3
  have FF3 := FF2.other W3 (Or.inr (six ("suppressedExceptions", listD) (by simp [sixNames])).symm)
  have B3 := B2.other W3 (Or.inr (slot_ne (C := rc) (Or.inl (w (.lays rc tN "backtrace" obD) (by simp [own_trw]))) (Or.inl (w (.lays rc tN "suppressedExceptions" listD) (by simp [own_trw]))) (by decide) (t := .object "java/lang/Object") (t' := .object "java/util/List") (by decide +kernel) (by decide +kernel)))
  have K3 := K2.other W3 (Or.inr (slot_ne (C := rc) (Or.inl (w (.lays rc tN "stackTrace" steD) (by simp [own_trw]))) (Or.inl (w (.lays rc tN "suppressedExceptions" listD) (by simp [own_trw]))) (by decide) (t := .array (.object "java/lang/StackTraceElement")) (t' := .object "java/util/List") (by decide +kernel) (by decide +kernel)))
  refine g_aloadN C (X6.toSt ge) (by decide +kernel : decode jdk_78_method_3_code 23 = .ok (.aload_n 0, 1)) (q := 24) rfl rfl rfl ?_
  obtain ⟨l6, c6, s6, Y6, hL6, eT6, hc6, hs6⟩ := X6
  obtain ⟨T7, Lo, n7, C0, C1, Y7, hn7, hLo, q0, q1, q2, q3, q4, q5, go⟩ := own_fill C Y6 eT6 hTK hBL hl w (by rw [hsh]; exact TH) wi E3 N3 (((SU.wr W1).wr W2).wr W3) hu K3 B3 (L := #[.val (.ref a), .val msg, .val cz]) (rest := []) rfl (by decide +kernel : decode jdk_78_method_3_code 24 = .ok (.invokevirtual 27, 3)) hf (by simpa using hlo) (by omega) (by omega)
  refine go_tr go ?_
  have X7 : Sb p l e rm s m #[.ref a, msg, cz] below meth c a T7 T7.heap 1 2752 := ⟨_, _, _, Y7, fun y hy => (List.mem_append.mp hy).elim (hL6 y) (hLo y), rfl, by omega, by omega⟩
  have E4 := own_exaC q0 q1 q2 q3 q4 E3
  have kn : ∃ cell : Cell, T7.heap[a]? = some cell ∧ cell.vm ≠ .unknown := by
    obtain ⟨z, z1, z2, -⟩ := N3
    cases z1.symm.trans q0
    exact ⟨C1, q1, by rw [q3, z2]; simp⟩
  have FF4 := own_fldC q0 q1 q2 q3 (q5 _ (six ("backtrace", obD) (by simp [sixNames])).symm (six ("depth", "I") (by simp [sixNames])).symm (six ("stackTrace", steD) (by simp [sixNames])).symm) FF3
  refine g_pop C (X7.toSt ge) (by decide +kernel : decode jdk_78_method_3_code 27 = .ok (.pop, 1)) (q := 28) rfl rfl ?_
  refine g_aloadN C (X7.toSt ge) (by decide +kernel : decode jdk_78_method_3_code 28 = .ok (.aload_n 0, 1)) (q := 29) rfl rfl rfl ?_
  refine g_aloadN C (X7.toSt ge) (by decide +kernel : decode jdk_78_method_3_code 29 = .ok (.aload_n 1, 1)) (q := 30) rfl rfl hmsg ?_
  obtain ⟨_, Fm⟩ := fld_laid E4 kn wi (Or.inl wl)
  refine b_putF C X7 (host := "") (Or.inl wm) Via.refl Fm E4 (Or.inl wl) wi (ty := .object "java/lang/String") (by decide +kernel) (narrow_isRef _ hmsg) (oR hmsg) (by decide +kernel : decode jdk_78_method_3_code 30 = .ok (.putfield 31, 3)) (q := 33) rfl ?_
  intro T8 h5 X8 W5
  have E5 := E4.wr W5
  have FF5 := FF4.other W5 (Or.inr (six ("detailMessage", msgD) (by simp [sixNames])).symm)
  have kn5 : ∃ cell : Cell, h5[a]? = some cell ∧ cell.vm ≠ .unknown := by
    obtain ⟨z, z1, z2⟩ := kn
    obtain ⟨z', y1, -, y3, -⟩ := wr_at W5 z1
    exact ⟨z', y1, by rw [y3]; exact z2⟩
  refine g_aloadN C (X8.toSt ge) (by decide +kernel : decode jdk_78_method_3_code 33 = .ok (.aload_n 0, 1)) (q := 34) rfl rfl rfl ?_
  refine g_aloadN C (X8.toSt ge) (by decide +kernel : decode jdk_78_method_3_code 34 = .ok (.aload_n 2, 1)) (q := 35) rfl rfl hcz ?_
  obtain ⟨_, Fz⟩ := fld_laid E5 kn5 wi (Or.inl (w (.lays rc tN "cause" thD) (by simp [own_trw])))
  refine b_putF C X8 (host := "") (Or.inl (w (.fieldLink tN 7 tN "cause" thD) (by simp [own_trw]))) Via.refl Fz E5 (Or.inl (w _ (by simp [own_trw]))) wi (ty := .object "java/lang/Throwable") (by decide +kernel) (narrow_isRef _ hcz) (oR hcz) (by decide +kernel : decode jdk_78_method_3_code 35 = .ok (.putfield 7, 3)) (q := 38) rfl ?_
  intro T9 h6 X9 W6
  have E6 := E5.wr W6
  have FF6 := FF5.other W6 (Or.inr (six ("cause", thD) (by simp [sixNames])).symm)
  exact g_retV C (X9.toSt ge) (by decide +kernel : decode jdk_78_method_3_code 38 = .ok (.return_, 1)) hce hsl ⟨rfl, X9.keep hsh, E6, FF6⟩
end OwnThr
section OwnStr
variable {p : Program} {l : Launch} {e : Env} {R : Room} {s : State} {m : MethodId} {args : Array Value} {below : List Frame} {meth : Method} {c : Code} {T : State} {Z : State} {own mn : String} {bytes : ByteArray} {ml n0 k n : Nat} {rt : Option FieldType} {h h' : Heap} {G : Outcome → State → Prop} {pc q : Nat} {L : Array Slot} {st rest : List Value} {a0 : Array Value} {x y o : Addr} {cs ds : List Int32} {sl : Nat} {v : Value} {ws : List Addr} {ty : FieldType}
/-- the String x spells cs -/
def Str (Z : State) (h : Heap) (x : Addr) (cs : List Int32) : Prop := ∃ (t : Addr) (kb : ClassId), Exa Z h x "java/lang/String" ∧ Fld Z h x "java/lang/String" "value" "[B" (.ref t) ∧ Fld Z h x "java/lang/String" "coder" "B" (.int 0) ∧ Arv Z h t kb .byte (Int32.ofNat cs.length) ((cs.map (fun c => c.toInt8.toInt32)).map Value.int) (.int 0) ∧ (∀ c ∈ cs, ¬ c < 0 ∧ ¬ (255 : Int32) < c) ∧ cs.length ≤ 4000
def Yar (Z : State) (h : Heap) (a : Addr) (ty : FieldType) : Prop := ∃ c : Cell, Arr Z h a c ty
theorem Yar.of {cA : ClassId} {z : Int32} {vs : List Value} {dv : Value} (V : Arv Z h o cA ty z vs dv) : Yar Z h o ty := by obtain ⟨c, A, -⟩ := V; exact ⟨c, A⟩
theorem Yar.ext (Y : Yar Z h o ty) (E : Ext h h') : Yar Z h' o ty := by obtain ⟨c, A⟩ := Y; exact ⟨c, A.ext E⟩
theorem Yar.wr (Y : Yar Z h o ty) (W : Wr h h' x sl v) : Yar Z h' o ty := by
  obtain ⟨c, A⟩ := Y
  by_cases q : o = x
  · subst q; exact ⟨_, A.same W⟩
  · exact ⟨_, A.other W q⟩
theorem Yar.keep (Y : Yar Z h o ty) (K : Keep h h' ws) : Yar Z h' o ty := by
  obtain ⟨c, A1, ⟨A2, kc, A3, comp, A4⟩, A5⟩ := Y
  obtain ⟨c', q1, q2, q3, -⟩ := K.2.2 _ _ A1
  exact ⟨c', q1, ⟨fun r z => A2 r (by rw [← q3]; exact z), kc, by rw [q2]; exact A3, comp, A4⟩, by rw [q3]; exact A5⟩
/-- neither a String nor a byte[] -/
def NoS (Z : State) (h : Heap) (o : Addr) : Prop := (∀ x, Exa Z h x "java/lang/String" → o ≠ x) ∧ ∀ t c, Arr Z h t c .byte → o ≠ t
theorem NoS.exa {K : String} {nn : Nat} (E : Exa Z h o K) (hK : K ≠ "java/lang/String") (wi : (Cond.instantiable K nn).before a0 Z = true) : NoS Z h o := ⟨fun x F => ne_exa E F hK, fun t c A => ne_arr E wi A⟩
theorem NoS.arr {nn : Nat} (Y : Yar Z h o ty) (ht : ty ≠ .byte) (wi : (Cond.instantiable "java/lang/String" nn).before a0 Z = true) : NoS Z h o := by
  obtain ⟨c, A⟩ := Y
  refine ⟨fun x F => Ne.symm (ne_arr F wi A), fun t c' B q => ?_⟩
  subst q
  obtain ⟨A1, ⟨-, k1, A3, comp, A4⟩, -⟩ := A
  obtain ⟨B1, ⟨-, k2, B3, comp', B4⟩, -⟩ := B
  cases A1.symm.trans B1
  cases A3.symm.trans B3
  rw [A4] at B4
  injection B4 with z1 z2
  exact ht z2
theorem Str.lt (F : Str Z h x cs) : x < h.size := by obtain ⟨t, kb, E, -⟩ := F; exact E.lt
theorem Str.exa (F : Str Z h x cs) : Exa Z h x "java/lang/String" := by obtain ⟨t, kb, E, -⟩ := F; exact E
theorem Str.rng (F : Str Z h x cs) : ∀ c ∈ cs, ¬ c < 0 ∧ ¬ (255 : Int32) < c := by obtain ⟨t, kb, -, -, -, -, r, -⟩ := F; exact r
theorem Str.ext (F : Str Z h x cs) (E : Ext h h') : Str Z h' x cs := by obtain ⟨t, kb, f1, f2, f3, f4, r⟩ := F; exact ⟨t, kb, f1.ext E, f2.ext E, f3.ext E, f4.ext E, r⟩
theorem Str.wr (F : Str Z h x cs) (W : Wr h h' o sl v) (N : NoS Z h o) : Str Z h' x cs := by
  obtain ⟨t, kb, f1, f2, f3, f4, r⟩ := F
  have n1 : x ≠ o := Ne.symm (N.1 x f1)
  have n2 : t ≠ o := by obtain ⟨c, A, -⟩ := f4; exact Ne.symm (N.2 t c A)
  exact ⟨t, kb, f1.wr W, f2.other W (Or.inl n1), f3.other W (Or.inl n1), f4.other W n2, r⟩
theorem Str.keep (F : Str Z h x cs) (K : Keep h h' ws) (N : ∀ o ∈ ws, NoS Z h o) : Str Z h' x cs := by
  obtain ⟨t, kb, f1, f2, f3, f4, r⟩ := F
  have n1 : x ∉ ws := fun q => (N x q).1 x f1 rfl
  have n2 : t ∉ ws := fun q => by obtain ⟨c, A, -⟩ := f4; exact (N t q).2 t c A rfl
  exact ⟨t, kb, f1.keep K, f2.keep K n1, f3.keep K n1, f4.keep K n2, r⟩
theorem Str.keepS {nn : Nat} (F : Str Z h x cs) (K : Keep h h' [y]) (hne : x ≠ y) (E : Exa Z h y "java/lang/String") (wi : (Cond.instantiable "java/lang/String" nn).before a0 Z = true) : Str Z h' x cs := by
  obtain ⟨t, kb, f1, f2, f3, f4, r⟩ := F
  have n1 : x ∉ [y] := ninS hne nin0
  have n2 : t ∉ [y] := ninS (by obtain ⟨c, A, -⟩ := f4; exact Ne.symm (ne_arr E wi A)) nin0
  exact ⟨t, kb, f1.keep K, f2.keep K n1, f3.keep K n1, f4.keep K n2, r⟩
theorem Str.cod (hr : ∀ c ∈ cs, ¬ c < 0 ∧ ¬ (255 : Int32) < c) : StrChars.Road.CodA cs 0 (Int32.ofNat cs.length) ((cs.map (fun c => c.toInt8.toInt32)).map Value.int) := StrChars.Road.codOf rfl fun c hc => (hr c hc).2
theorem Str.up (hr : ∀ c ∈ cs, ¬ c < 0 ∧ ¬ (255 : Int32) < c) : ∀ c ∈ cs, ¬ c < 0 ∧ ¬ (65535 : Int32) < c := fun c hc => ⟨(hr c hc).1, fun z => (hr c hc).2 (Int32.lt_trans (by decide) z)⟩
theorem g_strNew (C : Cx p s m meth c Z own bytes ml rt mn) (X : St p l e R s m args below meth c n0 T h k n) {i len k' n' W : Nat} {b : Addr} {kC : ClassId} {d v0 c0 : Value} {z N : Int32} (hwS : ∀ d ∈ StrChars.Road.words, d.before a0 Z = true) (wi : (Cond.instantiable "java/lang/String" 4).before a0 Z = true) (w1 : (Cond.methodLink own i ⟨"java/lang/String", "<init>", "([C)V"⟩).before a0 Z = true) (w2 : (Cond.instanceMethod ⟨"java/lang/String", "<init>", "([C)V"⟩).before a0 Z = true)
    (E : Exa Z h x "java/lang/String") (V : Fld Z h x "java/lang/String" "value" "[B" v0) (Cd : Fld Z h x "java/lang/String" "coder" "B" c0) (K : Arv Z h b kC .char N (cs.map Value.int) d) (S : Sta Z h "java/lang/String" "COMPACT_STRINGS" "Z" (.int z)) (hz : ¬ z = 0) (hlen : cs.length = len) (hN : N = Int32.ofNat len) (l0 : 0 < len) (l2 : len ≤ 4000) (hp : ∀ c ∈ cs, ¬ c < 0 ∧ ¬ (255 : Int32) < c) (hx0 : n0 ≤ x) (hh0 : n0 ≤ h.size)
    (hfr : 4 ≤ R.frames) (hlo : W + 65 ≤ R.locals) (hk : k + 1 = k') (hn : n + len = n') (hkR : k' ≤ R.cells) (hnR : n' ≤ R.slots) (hsz : L.size = ml) (hW : (rest.map fun v => v.category).sum = W) (hd : decode bytes pc = .ok (.invokespecial i, 3)) (hq : pc + 3 = q)
    (r : ∀ T' h', St p l e R s m args below meth c n0 T' h' k' n' → Keep h h' [x] → Str Z h' x cs → Goes p e below G (T'.setTop (mkF m q L rest))) : Goes p e below G (T.setTop (mkF m pc L (.ref b :: .ref x :: rest))) := by
  refine g_callIb C X (y := ⟨"java/lang/String", "<init>", "([C)V"⟩) (a := x) (by decide) rfl w1 w2 (hwS _ (List.mem_cons_self ..)) (StrChars.Road.backV (W := W) C.2.1 hwS (kI := 4) wi (bs := cs.map (fun c => c.toInt8.toInt32)) hx0 hh0 E V Cd K S hz hlen hN l0 l2 hp rfl hfr hlo) hk hn hkR hnR hsz (show parseMethodDescriptor "([C)V" = some ⟨[.array .char], none⟩ by decide +kernel) (argsL := [.ref b]) rfl (rest := rest) rfl rfl hW hd hq ?_
  rintro v T' h' L' hX ⟨rfl, hFr, K', E', C', t, kb, -, -, -, V', A'⟩
  subst hlen hN
  exact r T' h' (hX.resolve_right fun z => z hFr) K' ⟨t, kb, E', V', C', A', hp, l2⟩
end OwnStr
def Wd (Z : State) (a_FAILED : Addr) (a_NOT_FOUND : Addr) (a_UNREACHABLE : Addr) (cz : Int32) (uS : Value) (sN : Value) : Prop := Sta Z Z.heap "com/example/jetway/jetway/FetchException$Kind" "FAILED" "Lcom/example/jetway/jetway/FetchException$Kind;" (.ref a_FAILED) ∧ Exa Z Z.heap a_FAILED "com/example/jetway/jetway/FetchException$Kind" ∧ Sta Z Z.heap "com/example/jetway/jetway/FetchException$Kind" "NOT_FOUND" "Lcom/example/jetway/jetway/FetchException$Kind;" (.ref a_NOT_FOUND) ∧ Exa Z Z.heap a_NOT_FOUND "com/example/jetway/jetway/FetchException$Kind" ∧ Fld Z Z.heap a_FAILED "java/lang/Enum" "ordinal" "I" (.int (0 : Int32)) ∧ Fld Z Z.heap a_NOT_FOUND "java/lang/Enum" "ordinal" "I" (.int (2 : Int32)) ∧ Sta Z Z.heap "com/example/jetway/jetway/FetchException$Kind" "UNREACHABLE" "Lcom/example/jetway/jetway/FetchException$Kind;" (.ref a_UNREACHABLE) ∧ Exa Z Z.heap a_UNREACHABLE "com/example/jetway/jetway/FetchException$Kind" ∧ Fld Z Z.heap a_UNREACHABLE "java/lang/Enum" "ordinal" "I" (.int (1 : Int32)) ∧ Sta Z Z.heap "java/lang/String" "COMPACT_STRINGS" "Z" (.int cz) ∧ ¬ cz = 0 ∧ Sta Z Z.heap "java/lang/Throwable" "UNASSIGNED_STACK" "[Ljava/lang/StackTraceElement;" uS ∧ uS.isRef = true ∧ Sta Z Z.heap "java/lang/Throwable" "SUPPRESSED_SENTINEL" "Ljava/util/List;" sN ∧ sN.isRef = true
theorem own_words {Z : State} {a0 : Array Value} (hw : ∀ d ∈ tables_1, d.before a0 Z = true) : ∀ d ∈ StrChars.Road.words, d.before a0 Z = true := fun d hd => hw d ((by decide +kernel : ∀ d ∈ StrChars.Road.words, d ∈ tables_1) d hd)

theorem w32 {Z : State} {a0 : Array Value} (hw : ∀ d ∈ tables_1, d.before a0 Z = true) : (Jvm.Cond.initialized "com/example/jetway/jetway/FetchException$Kind").before a0 Z = true := hw _ (List.mem_of_getElem? (i := 32) rfl)
theorem w33 {Z : State} {a0 : Array Value} (hw : ∀ d ∈ tables_1, d.before a0 Z = true) : (Jvm.Cond.laysStatic "com/example/jetway/jetway/FetchException$Kind" "FAILED" "Lcom/example/jetway/jetway/FetchException$Kind;").before a0 Z = true := hw _ (List.mem_of_getElem? (i := 33) rfl)
theorem w104 {Z : State} {a0 : Array Value} (hw : ∀ d ∈ tables_1, d.before a0 Z = true) : (Jvm.Cond.laysStatic "com/example/jetway/jetway/FetchException$Kind" "NOT_FOUND" "Lcom/example/jetway/jetway/FetchException$Kind;").before a0 Z = true := hw _ (List.mem_of_getElem? (i := 104) rfl)
theorem w111 {Z : State} {a0 : Array Value} (hw : ∀ d ∈ tables_1, d.before a0 Z = true) : (Jvm.Cond.laysStatic "com/example/jetway/jetway/FetchException$Kind" "UNREACHABLE" "Lcom/example/jetway/jetway/FetchException$Kind;").before a0 Z = true := hw _ (List.mem_of_getElem? (i := 111) rfl)
theorem w87 {Z : State} {a0 : Array Value} (hw : ∀ d ∈ tables_1, d.before a0 Z = true) : (Jvm.Cond.lays "com/example/jetway/jetway/FetchException" "java/lang/Throwable" "detailMessage" "Ljava/lang/String;").before a0 Z = true := hw _ (List.mem_of_getElem? (i := 87) rfl)
theorem w93 {Z : State} {a0 : Array Value} (hw : ∀ d ∈ tables_1, d.before a0 Z = true) : (Jvm.Cond.laysFinal "com/example/jetway/jetway/FetchException" "com/example/jetway/jetway/FetchException" "kind" "Lcom/example/jetway/jetway/FetchException$Kind;").before a0 Z = true := hw _ (List.mem_of_getElem? (i := 93) rfl)
theorem w89 {Z : State} {a0 : Array Value} (hw : ∀ d ∈ tables_1, d.before a0 Z = true) : (Jvm.Cond.lays "com/example/jetway/jetway/FetchException" "java/lang/Throwable" "depth" "I").before a0 Z = true := hw _ (List.mem_of_getElem? (i := 89) rfl)
theorem w88 {Z : State} {a0 : Array Value} (hw : ∀ d ∈ tables_1, d.before a0 Z = true) : (Jvm.Cond.lays "com/example/jetway/jetway/FetchException" "java/lang/Throwable" "backtrace" "Ljava/lang/Object;").before a0 Z = true := hw _ (List.mem_of_getElem? (i := 88) rfl)
theorem w63 {Z : State} {a0 : Array Value} (hw : ∀ d ∈ tables_1, d.before a0 Z = true) : (Jvm.Cond.lays "com/example/jetway/jetway/FetchException" "java/lang/Throwable" "suppressedExceptions" "Ljava/util/List;").before a0 Z = true := hw _ (List.mem_of_getElem? (i := 63) rfl)
theorem w60 {Z : State} {a0 : Array Value} (hw : ∀ d ∈ tables_1, d.before a0 Z = true) : (Jvm.Cond.lays "com/example/jetway/jetway/FetchException" "java/lang/Throwable" "stackTrace" "[Ljava/lang/StackTraceElement;").before a0 Z = true := hw _ (List.mem_of_getElem? (i := 60) rfl)
theorem w57 {Z : State} {a0 : Array Value} (hw : ∀ d ∈ tables_1, d.before a0 Z = true) : (Jvm.Cond.lays "com/example/jetway/jetway/FetchException" "java/lang/Throwable" "cause" "Ljava/lang/Throwable;").before a0 Z = true := hw _ (List.mem_of_getElem? (i := 57) rfl)
theorem w35 {Z : State} {a0 : Array Value} (hw : ∀ d ∈ tables_1, d.before a0 Z = true) : (Jvm.Cond.instantiable "com/example/jetway/jetway/FetchException" (7 : Nat)).before a0 Z = true := hw _ (List.mem_of_getElem? (i := 35) rfl)
theorem d9_0 : decode jdk_59_method_3_code 0 = .ok (.aload_n 0, 1) := by decide +kernel
theorem d9_1 : decode jdk_59_method_3_code 1 = .ok (.aload_n 1, 1) := by decide +kernel
theorem d9_2 : decode jdk_59_method_3_code 2 = .ok (.aload_n 2, 1) := by decide +kernel
theorem d9_3 : decode jdk_59_method_3_code 3 = .ok (.invokespecial 10, 3) := by decide +kernel
theorem w49 {Z : State} {a0 : Array Value} (hw : ∀ d ∈ tables_1, d.before a0 Z = true) : (Jvm.Cond.methodLink "java/lang/Exception" (10 : Nat) ({ cls := "java/lang/Throwable", name := "<init>", desc := "(Ljava/lang/String;Ljava/lang/Throwable;)V" } : Jvm.MethodName)).before a0 Z = true := hw _ (List.mem_of_getElem? (i := 49) rfl)
theorem w91 {Z : State} {a0 : Array Value} (hw : ∀ d ∈ tables_1, d.before a0 Z = true) : (Jvm.Cond.fieldLink "java/lang/Throwable" (31 : Nat) "java/lang/Throwable" "detailMessage" "Ljava/lang/String;").before a0 Z = true := hw _ (List.mem_of_getElem? (i := 91) rfl)
theorem w54 {Z : State} {a0 : Array Value} (hw : ∀ d ∈ tables_1, d.before a0 Z = true) : (Jvm.Cond.code ({ cls := "java/lang/Throwable", name := "<init>", desc := "(Ljava/lang/String;Ljava/lang/Throwable;)V" } : Jvm.MethodName) jdk_78_method_3_code (3 : Nat) (Option.none : Option Jvm.ClassFile.FieldType)).before a0 Z = true := hw _ (List.mem_of_getElem? (i := 54) rfl)
theorem w53 {Z : State} {a0 : Array Value} (hw : ∀ d ∈ tables_1, d.before a0 Z = true) : (Jvm.Cond.initialized "java/lang/Throwable").before a0 Z = true := hw _ (List.mem_of_getElem? (i := 53) rfl)
theorem pd_4 : parseMethodDescriptor "(Ljava/lang/String;Ljava/lang/Throwable;)V" = some ⟨[(.object "java/lang/String"), (.object "java/lang/Throwable")], none⟩ := by decide +kernel
theorem w50 {Z : State} {a0 : Array Value} (hw : ∀ d ∈ tables_1, d.before a0 Z = true) : (Jvm.Cond.instanceMethod ({ cls := "java/lang/Throwable", name := "<init>", desc := "(Ljava/lang/String;Ljava/lang/Throwable;)V" } : Jvm.MethodName)).before a0 Z = true := hw _ (List.mem_of_getElem? (i := 50) rfl)
theorem d9_6 : decode jdk_59_method_3_code 6 = .ok (.return_, 1) := by decide +kernel
theorem pn_6 : plainName "java/lang/Exception" = true := by first | (simp [plainName, overriddenIn]; done) | decide +kernel
theorem d8_0 : decode prog_30_method_3_code 0 = .ok (.aload_n 0, 1) := by decide +kernel
theorem d8_1 : decode prog_30_method_3_code 1 = .ok (.aload_n 1, 1) := by decide +kernel
theorem d8_2 : decode prog_30_method_3_code 2 = .ok (.aload_n 2, 1) := by decide +kernel
theorem d8_3 : decode prog_30_method_3_code 3 = .ok (.invokespecial 13, 3) := by decide +kernel
theorem w44 {Z : State} {a0 : Array Value} (hw : ∀ d ∈ tables_1, d.before a0 Z = true) : (Jvm.Cond.methodLink "com/example/jetway/jetway/FetchException" (13 : Nat) ({ cls := "java/lang/Exception", name := "<init>", desc := "(Ljava/lang/String;Ljava/lang/Throwable;)V" } : Jvm.MethodName)).before a0 Z = true := hw _ (List.mem_of_getElem? (i := 44) rfl)
theorem w48 {Z : State} {a0 : Array Value} (hw : ∀ d ∈ tables_1, d.before a0 Z = true) : (Jvm.Cond.code ({ cls := "java/lang/Exception", name := "<init>", desc := "(Ljava/lang/String;Ljava/lang/Throwable;)V" } : Jvm.MethodName) jdk_59_method_3_code (3 : Nat) (Option.none : Option Jvm.ClassFile.FieldType)).before a0 Z = true := hw _ (List.mem_of_getElem? (i := 48) rfl)
theorem w47 {Z : State} {a0 : Array Value} (hw : ∀ d ∈ tables_1, d.before a0 Z = true) : (Jvm.Cond.initialized "java/lang/Exception").before a0 Z = true := hw _ (List.mem_of_getElem? (i := 47) rfl)
theorem w45 {Z : State} {a0 : Array Value} (hw : ∀ d ∈ tables_1, d.before a0 Z = true) : (Jvm.Cond.instanceMethod ({ cls := "java/lang/Exception", name := "<init>", desc := "(Ljava/lang/String;Ljava/lang/Throwable;)V" } : Jvm.MethodName)).before a0 Z = true := hw _ (List.mem_of_getElem? (i := 45) rfl)
theorem d8_6 : decode prog_30_method_3_code 6 = .ok (.aload_n 0, 1) := by decide +kernel
theorem d8_7 : decode prog_30_method_3_code 7 = .ok (.aload_n 3, 1) := by decide +kernel
theorem d8_8 : decode prog_30_method_3_code 8 = .ok (.putfield 18, 3) := by decide +kernel
theorem w92 {Z : State} {a0 : Array Value} (hw : ∀ d ∈ tables_1, d.before a0 Z = true) : (Jvm.Cond.fieldLink "com/example/jetway/jetway/FetchException" (18 : Nat) "com/example/jetway/jetway/FetchException" "kind" "Lcom/example/jetway/jetway/FetchException$Kind;").before a0 Z = true := hw _ (List.mem_of_getElem? (i := 92) rfl)
theorem d8_11 : decode prog_30_method_3_code 11 = .ok (.return_, 1) := by decide +kernel
theorem pn_15 : plainName "com/example/jetway/jetway/FetchException" = true := by first | (simp [plainName, overriddenIn]; done) | decide +kernel
theorem d7_0 : decode prog_30_method_1_code 0 = .ok (.aload_n 0, 1) := by decide +kernel
theorem d7_1 : decode prog_30_method_1_code 1 = .ok (.aload_n 1, 1) := by decide +kernel
theorem d7_2 : decode prog_30_method_1_code 2 = .ok (.aconst_null, 1) := by decide +kernel
theorem d7_3 : decode prog_30_method_1_code 3 = .ok (.getstatic 1, 3) := by decide +kernel
theorem w40 {Z : State} {a0 : Array Value} (hw : ∀ d ∈ tables_1, d.before a0 Z = true) : (Jvm.Cond.fieldLink "com/example/jetway/jetway/FetchException" (1 : Nat) "com/example/jetway/jetway/FetchException$Kind" "FAILED" "Lcom/example/jetway/jetway/FetchException$Kind;").before a0 Z = true := hw _ (List.mem_of_getElem? (i := 40) rfl)
theorem d7_6 : decode prog_30_method_1_code 6 = .ok (.invokespecial 7, 3) := by decide +kernel
theorem w41 {Z : State} {a0 : Array Value} (hw : ∀ d ∈ tables_1, d.before a0 Z = true) : (Jvm.Cond.methodLink "com/example/jetway/jetway/FetchException" (7 : Nat) ({ cls := "com/example/jetway/jetway/FetchException", name := "<init>", desc := "(Ljava/lang/String;Ljava/lang/Throwable;Lcom/example/jetway/jetway/FetchException$Kind;)V" } : Jvm.MethodName)).before a0 Z = true := hw _ (List.mem_of_getElem? (i := 41) rfl)
theorem w43 {Z : State} {a0 : Array Value} (hw : ∀ d ∈ tables_1, d.before a0 Z = true) : (Jvm.Cond.code ({ cls := "com/example/jetway/jetway/FetchException", name := "<init>", desc := "(Ljava/lang/String;Ljava/lang/Throwable;Lcom/example/jetway/jetway/FetchException$Kind;)V" } : Jvm.MethodName) prog_30_method_3_code (4 : Nat) (Option.none : Option Jvm.ClassFile.FieldType)).before a0 Z = true := hw _ (List.mem_of_getElem? (i := 43) rfl)
theorem w36 {Z : State} {a0 : Array Value} (hw : ∀ d ∈ tables_1, d.before a0 Z = true) : (Jvm.Cond.initialized "com/example/jetway/jetway/FetchException").before a0 Z = true := hw _ (List.mem_of_getElem? (i := 36) rfl)
theorem pd_21 : parseMethodDescriptor "(Ljava/lang/String;Ljava/lang/Throwable;Lcom/example/jetway/jetway/FetchException$Kind;)V" = some ⟨[(.object "java/lang/String"), (.object "java/lang/Throwable"), (.object "com/example/jetway/jetway/FetchException$Kind")], none⟩ := by decide +kernel
theorem w42 {Z : State} {a0 : Array Value} (hw : ∀ d ∈ tables_1, d.before a0 Z = true) : (Jvm.Cond.instanceMethod ({ cls := "com/example/jetway/jetway/FetchException", name := "<init>", desc := "(Ljava/lang/String;Ljava/lang/Throwable;Lcom/example/jetway/jetway/FetchException$Kind;)V" } : Jvm.MethodName)).before a0 Z = true := hw _ (List.mem_of_getElem? (i := 42) rfl)
theorem d7_9 : decode prog_30_method_1_code 9 = .ok (.return_, 1) := by decide +kernel
theorem d13_0 : decode prog_30_method_2_code 0 = .ok (.aload_n 0, 1) := by decide +kernel
theorem d13_1 : decode prog_30_method_2_code 1 = .ok (.aload_n 1, 1) := by decide +kernel
theorem d13_2 : decode prog_30_method_2_code 2 = .ok (.aload_n 2, 1) := by decide +kernel
theorem d13_3 : decode prog_30_method_2_code 3 = .ok (.getstatic 1, 3) := by decide +kernel
theorem d13_6 : decode prog_30_method_2_code 6 = .ok (.invokespecial 7, 3) := by decide +kernel
theorem d13_9 : decode prog_30_method_2_code 9 = .ok (.return_, 1) := by decide +kernel
theorem w0 {Z : State} {a0 : Array Value} (hw : ∀ d ∈ tables_1, d.before a0 Z = true) : (Jvm.Cond.constant "com/example/jetway/jetway/FetchExceptionNotFoundPinLaw" (7 : Nat) (2147483647 : Int32)).before a0 Z = true := hw _ (List.mem_of_getElem? (i := 0) rfl)
theorem w1 {Z : State} {a0 : Array Value} (hw : ∀ d ∈ tables_1, d.before a0 Z = true) : (Jvm.Cond.arrayClass Jvm.ClassFile.FieldType.char).before a0 Z = true := hw _ (List.mem_of_getElem? (i := 1) rfl)
theorem w2 {Z : State} {a0 : Array Value} (hw : ∀ d ∈ tables_1, d.before a0 Z = true) : (Jvm.Cond.classLink "com/example/jetway/jetway/FetchExceptionNotFoundPinLaw" (8 : Nat) "java/lang/String").before a0 Z = true := hw _ (List.mem_of_getElem? (i := 2) rfl)
theorem w3 {Z : State} {a0 : Array Value} (hw : ∀ d ∈ tables_1, d.before a0 Z = true) : (Jvm.Cond.instantiable "java/lang/String" (4 : Nat)).before a0 Z = true := hw _ (List.mem_of_getElem? (i := 3) rfl)
theorem w4 {Z : State} {a0 : Array Value} (hw : ∀ d ∈ tables_1, d.before a0 Z = true) : (Jvm.Cond.initialized "java/lang/String").before a0 Z = true := hw _ (List.mem_of_getElem? (i := 4) rfl)
theorem w28 {Z : State} {a0 : Array Value} (hw : ∀ d ∈ tables_1, d.before a0 Z = true) : (Jvm.Cond.laysFinal "java/lang/String" "java/lang/String" "coder" "B").before a0 Z = true := hw _ (List.mem_of_getElem? (i := 28) rfl)
theorem w30 {Z : State} {a0 : Array Value} (hw : ∀ d ∈ tables_1, d.before a0 Z = true) : (Jvm.Cond.laysFinal "java/lang/String" "java/lang/String" "value" "[B").before a0 Z = true := hw _ (List.mem_of_getElem? (i := 30) rfl)
theorem w5 {Z : State} {a0 : Array Value} (hw : ∀ d ∈ tables_1, d.before a0 Z = true) : (Jvm.Cond.methodLink "com/example/jetway/jetway/FetchExceptionNotFoundPinLaw" (10 : Nat) ({ cls := "java/lang/String", name := "<init>", desc := "([C)V" } : Jvm.MethodName)).before a0 Z = true := hw _ (List.mem_of_getElem? (i := 5) rfl)
theorem w6 {Z : State} {a0 : Array Value} (hw : ∀ d ∈ tables_1, d.before a0 Z = true) : (Jvm.Cond.instanceMethod ({ cls := "java/lang/String", name := "<init>", desc := "([C)V" } : Jvm.MethodName)).before a0 Z = true := hw _ (List.mem_of_getElem? (i := 6) rfl)
theorem w31 {Z : State} {a0 : Array Value} (hw : ∀ d ∈ tables_1, d.before a0 Z = true) : (Jvm.Cond.fieldLink "com/example/jetway/jetway/FetchExceptionNotFoundPinLaw" (13 : Nat) "com/example/jetway/jetway/FetchException$Kind" "FAILED" "Lcom/example/jetway/jetway/FetchException$Kind;").before a0 Z = true := hw _ (List.mem_of_getElem? (i := 31) rfl)
theorem w34 {Z : State} {a0 : Array Value} (hw : ∀ d ∈ tables_1, d.before a0 Z = true) : (Jvm.Cond.classLink "com/example/jetway/jetway/FetchExceptionNotFoundPinLaw" (25 : Nat) "com/example/jetway/jetway/FetchException").before a0 Z = true := hw _ (List.mem_of_getElem? (i := 34) rfl)
theorem w94 {Z : State} {a0 : Array Value} (hw : ∀ d ∈ tables_1, d.before a0 Z = true) : (Jvm.Cond.methodLink "com/example/jetway/jetway/FetchExceptionNotFoundPinLaw" (30 : Nat) ({ cls := "com/example/jetway/jetway/FetchException", name := "<init>", desc := "(Ljava/lang/String;Ljava/lang/Throwable;Lcom/example/jetway/jetway/FetchException$Kind;)V" } : Jvm.MethodName)).before a0 Z = true := hw _ (List.mem_of_getElem? (i := 94) rfl)
theorem w37 {Z : State} {a0 : Array Value} (hw : ∀ d ∈ tables_1, d.before a0 Z = true) : (Jvm.Cond.methodLink "com/example/jetway/jetway/FetchExceptionNotFoundPinLaw" (27 : Nat) ({ cls := "com/example/jetway/jetway/FetchException", name := "<init>", desc := "(Ljava/lang/String;)V" } : Jvm.MethodName)).before a0 Z = true := hw _ (List.mem_of_getElem? (i := 37) rfl)
theorem w39 {Z : State} {a0 : Array Value} (hw : ∀ d ∈ tables_1, d.before a0 Z = true) : (Jvm.Cond.code ({ cls := "com/example/jetway/jetway/FetchException", name := "<init>", desc := "(Ljava/lang/String;)V" } : Jvm.MethodName) prog_30_method_1_code (2 : Nat) (Option.none : Option Jvm.ClassFile.FieldType)).before a0 Z = true := hw _ (List.mem_of_getElem? (i := 39) rfl)
theorem pd_29 : parseMethodDescriptor "(Ljava/lang/String;)V" = some ⟨[(.object "java/lang/String")], none⟩ := by decide +kernel
theorem w38 {Z : State} {a0 : Array Value} (hw : ∀ d ∈ tables_1, d.before a0 Z = true) : (Jvm.Cond.instanceMethod ({ cls := "com/example/jetway/jetway/FetchException", name := "<init>", desc := "(Ljava/lang/String;)V" } : Jvm.MethodName)).before a0 Z = true := hw _ (List.mem_of_getElem? (i := 38) rfl)
theorem w95 {Z : State} {a0 : Array Value} (hw : ∀ d ∈ tables_1, d.before a0 Z = true) : (Jvm.Cond.methodLink "com/example/jetway/jetway/FetchExceptionNotFoundPinLaw" (33 : Nat) ({ cls := "com/example/jetway/jetway/FetchException", name := "<init>", desc := "(Ljava/lang/String;Ljava/lang/Throwable;)V" } : Jvm.MethodName)).before a0 Z = true := hw _ (List.mem_of_getElem? (i := 95) rfl)
theorem w97 {Z : State} {a0 : Array Value} (hw : ∀ d ∈ tables_1, d.before a0 Z = true) : (Jvm.Cond.code ({ cls := "com/example/jetway/jetway/FetchException", name := "<init>", desc := "(Ljava/lang/String;Ljava/lang/Throwable;)V" } : Jvm.MethodName) prog_30_method_2_code (3 : Nat) (Option.none : Option Jvm.ClassFile.FieldType)).before a0 Z = true := hw _ (List.mem_of_getElem? (i := 97) rfl)
theorem w96 {Z : State} {a0 : Array Value} (hw : ∀ d ∈ tables_1, d.before a0 Z = true) : (Jvm.Cond.instanceMethod ({ cls := "com/example/jetway/jetway/FetchException", name := "<init>", desc := "(Ljava/lang/String;Ljava/lang/Throwable;)V" } : Jvm.MethodName)).before a0 Z = true := hw _ (List.mem_of_getElem? (i := 96) rfl)
theorem w98 {Z : State} {a0 : Array Value} (hw : ∀ d ∈ tables_1, d.before a0 Z = true) : (Jvm.Cond.methodLink "com/example/jetway/jetway/FetchExceptionNotFoundPinLaw" (36 : Nat) ({ cls := "com/example/jetway/jetway/FetchException", name := "notFound", desc := "()Z" } : Jvm.MethodName)).before a0 Z = true := hw _ (List.mem_of_getElem? (i := 98) rfl)
theorem d14_0 : decode prog_30_method_5_code 0 = .ok (.aload_n 0, 1) := by decide +kernel
theorem d14_1 : decode prog_30_method_5_code 1 = .ok (.getfield 18, 3) := by decide +kernel
theorem d14_4 : decode prog_30_method_5_code 4 = .ok (.getstatic 24, 3) := by decide +kernel
theorem w103 {Z : State} {a0 : Array Value} (hw : ∀ d ∈ tables_1, d.before a0 Z = true) : (Jvm.Cond.fieldLink "com/example/jetway/jetway/FetchException" (24 : Nat) "com/example/jetway/jetway/FetchException$Kind" "NOT_FOUND" "Lcom/example/jetway/jetway/FetchException$Kind;").before a0 Z = true := hw _ (List.mem_of_getElem? (i := 103) rfl)
theorem d14_7 : decode prog_30_method_5_code 7 = .ok (.if_acmp .ne 7, 3) := by decide +kernel
theorem d14_14 : decode prog_30_method_5_code 14 = .ok (.iconst 0, 1) := by decide +kernel
theorem d14_15 : decode prog_30_method_5_code 15 = .ok (.ireturn, 1) := by decide +kernel
theorem w102 {Z : State} {a0 : Array Value} (hw : ∀ d ∈ tables_1, d.before a0 Z = true) : (Jvm.Cond.code ({ cls := "com/example/jetway/jetway/FetchException", name := "notFound", desc := "()Z" } : Jvm.MethodName) prog_30_method_5_code (1 : Nat) (Option.some Jvm.ClassFile.FieldType.boolean)).before a0 Z = true := hw _ (List.mem_of_getElem? (i := 102) rfl)
theorem pd_36 : parseMethodDescriptor "()Z" = some ⟨[], some .boolean⟩ := by decide +kernel
theorem w99 {Z : State} {a0 : Array Value} (hw : ∀ d ∈ tables_1, d.before a0 Z = true) : (Jvm.Cond.declares ({ cls := "com/example/jetway/jetway/FetchException", name := "notFound", desc := "()Z" } : Jvm.MethodName)).before a0 Z = true := hw _ (List.mem_of_getElem? (i := 99) rfl)
theorem w101 {Z : State} {a0 : Array Value} (hw : ∀ d ∈ tables_1, d.before a0 Z = true) : (Jvm.Cond.selects "com/example/jetway/jetway/FetchException" ({ cls := "com/example/jetway/jetway/FetchException", name := "notFound", desc := "()Z" } : Jvm.MethodName) ({ cls := "com/example/jetway/jetway/FetchException", name := "notFound", desc := "()Z" } : Jvm.MethodName)).before a0 Z = true := hw _ (List.mem_of_getElem? (i := 101) rfl)
theorem w100 {Z : State} {a0 : Array Value} (hw : ∀ d ∈ tables_1, d.before a0 Z = true) : (Jvm.Cond.instanceMethod ({ cls := "com/example/jetway/jetway/FetchException", name := "notFound", desc := "()Z" } : Jvm.MethodName)).before a0 Z = true := hw _ (List.mem_of_getElem? (i := 100) rfl)
theorem w105 {Z : State} {a0 : Array Value} (hw : ∀ d ∈ tables_1, d.before a0 Z = true) : (Jvm.Cond.methodLink "com/example/jetway/jetway/FetchExceptionNotFoundPinLaw" (40 : Nat) ({ cls := "com/example/jetway/jetway/FetchException", name := "unreachable", desc := "()Z" } : Jvm.MethodName)).before a0 Z = true := hw _ (List.mem_of_getElem? (i := 105) rfl)
theorem d15_0 : decode prog_30_method_4_code 0 = .ok (.aload_n 0, 1) := by decide +kernel
theorem d15_1 : decode prog_30_method_4_code 1 = .ok (.getfield 18, 3) := by decide +kernel
theorem d15_4 : decode prog_30_method_4_code 4 = .ok (.getstatic 21, 3) := by decide +kernel
theorem w110 {Z : State} {a0 : Array Value} (hw : ∀ d ∈ tables_1, d.before a0 Z = true) : (Jvm.Cond.fieldLink "com/example/jetway/jetway/FetchException" (21 : Nat) "com/example/jetway/jetway/FetchException$Kind" "UNREACHABLE" "Lcom/example/jetway/jetway/FetchException$Kind;").before a0 Z = true := hw _ (List.mem_of_getElem? (i := 110) rfl)
theorem d15_7 : decode prog_30_method_4_code 7 = .ok (.if_acmp .ne 7, 3) := by decide +kernel
theorem d15_14 : decode prog_30_method_4_code 14 = .ok (.iconst 0, 1) := by decide +kernel
theorem d15_15 : decode prog_30_method_4_code 15 = .ok (.ireturn, 1) := by decide +kernel
theorem w109 {Z : State} {a0 : Array Value} (hw : ∀ d ∈ tables_1, d.before a0 Z = true) : (Jvm.Cond.code ({ cls := "com/example/jetway/jetway/FetchException", name := "unreachable", desc := "()Z" } : Jvm.MethodName) prog_30_method_4_code (1 : Nat) (Option.some Jvm.ClassFile.FieldType.boolean)).before a0 Z = true := hw _ (List.mem_of_getElem? (i := 109) rfl)
theorem w106 {Z : State} {a0 : Array Value} (hw : ∀ d ∈ tables_1, d.before a0 Z = true) : (Jvm.Cond.declares ({ cls := "com/example/jetway/jetway/FetchException", name := "unreachable", desc := "()Z" } : Jvm.MethodName)).before a0 Z = true := hw _ (List.mem_of_getElem? (i := 106) rfl)
theorem w108 {Z : State} {a0 : Array Value} (hw : ∀ d ∈ tables_1, d.before a0 Z = true) : (Jvm.Cond.selects "com/example/jetway/jetway/FetchException" ({ cls := "com/example/jetway/jetway/FetchException", name := "unreachable", desc := "()Z" } : Jvm.MethodName) ({ cls := "com/example/jetway/jetway/FetchException", name := "unreachable", desc := "()Z" } : Jvm.MethodName)).before a0 Z = true := hw _ (List.mem_of_getElem? (i := 108) rfl)
theorem w107 {Z : State} {a0 : Array Value} (hw : ∀ d ∈ tables_1, d.before a0 Z = true) : (Jvm.Cond.instanceMethod ({ cls := "com/example/jetway/jetway/FetchException", name := "unreachable", desc := "()Z" } : Jvm.MethodName)).before a0 Z = true := hw _ (List.mem_of_getElem? (i := 107) rfl)
theorem w112 {Z : State} {a0 : Array Value} (hw : ∀ d ∈ tables_1, d.before a0 Z = true) : (Jvm.Cond.fieldLink "com/example/jetway/jetway/FetchExceptionNotFoundPinLaw" (19 : Nat) "com/example/jetway/jetway/FetchException$Kind" "UNREACHABLE" "Lcom/example/jetway/jetway/FetchException$Kind;").before a0 Z = true := hw _ (List.mem_of_getElem? (i := 112) rfl)
theorem d15_10 : decode prog_30_method_4_code 10 = .ok (.iconst 1, 1) := by decide +kernel
theorem d15_11 : decode prog_30_method_4_code 11 = .ok (.goto 4, 3) := by decide +kernel
theorem w113 {Z : State} {a0 : Array Value} (hw : ∀ d ∈ tables_1, d.before a0 Z = true) : (Jvm.Cond.fieldLink "com/example/jetway/jetway/FetchExceptionNotFoundPinLaw" (22 : Nat) "com/example/jetway/jetway/FetchException$Kind" "NOT_FOUND" "Lcom/example/jetway/jetway/FetchException$Kind;").before a0 Z = true := hw _ (List.mem_of_getElem? (i := 113) rfl)
theorem d14_10 : decode prog_30_method_5_code 10 = .ok (.iconst 1, 1) := by decide +kernel
theorem d14_11 : decode prog_30_method_5_code 11 = .ok (.goto 4, 3) := by decide +kernel
theorem pn_47 : plainName "com/example/jetway/jetway/FetchExceptionNotFoundPinLaw" = true := by first | (simp [plainName, overriddenIn]; done) | decide +kernel
theorem own_six {Z : State} {a0 : Array Value} (hw : ∀ d ∈ tables_1, d.before a0 Z = true) : ∀ nd ∈ Jvm.Free.Exc.sixNames, Jvm.RoadKit.slotOf Z "java/lang/Throwable" nd.1 nd.2 ≠ Jvm.RoadKit.slotOf Z "com/example/jetway/jetway/FetchException" "kind" "Lcom/example/jetway/jetway/FetchException$Kind;" := (List.forall_mem_cons.mpr ⟨(slot_ne (C := "com/example/jetway/jetway/FetchException") (Or.inl (w57 hw)) (Or.inr (w93 hw)) (by decide) (t := (.object "java/lang/Throwable")) (t' := (.object "com/example/jetway/jetway/FetchException$Kind")) (by decide) (by decide)), (List.forall_mem_cons.mpr ⟨(slot_ne (C := "com/example/jetway/jetway/FetchException") (Or.inl (w60 hw)) (Or.inr (w93 hw)) (by decide) (t := (.array (.object "java/lang/StackTraceElement"))) (t' := (.object "com/example/jetway/jetway/FetchException$Kind")) (by decide) (by decide)), (List.forall_mem_cons.mpr ⟨(slot_ne (C := "com/example/jetway/jetway/FetchException") (Or.inl (w63 hw)) (Or.inr (w93 hw)) (by decide) (t := (.object "java/util/List")) (t' := (.object "com/example/jetway/jetway/FetchException$Kind")) (by decide) (by decide)), (List.forall_mem_cons.mpr ⟨(slot_ne (C := "com/example/jetway/jetway/FetchException") (Or.inl (w88 hw)) (Or.inr (w93 hw)) (by decide) (t := (.object "java/lang/Object")) (t' := (.object "com/example/jetway/jetway/FetchException$Kind")) (by decide) (by decide)), (List.forall_mem_cons.mpr ⟨(slot_ne (C := "com/example/jetway/jetway/FetchException") (Or.inl (w89 hw)) (Or.inr (w93 hw)) (by decide) (t := .int) (t' := (.object "com/example/jetway/jetway/FetchException$Kind")) (by decide) (by decide)), (List.forall_mem_cons.mpr ⟨(slot_ne (C := "com/example/jetway/jetway/FetchException") (Or.inl (w87 hw)) (Or.inr (w93 hw)) (by decide) (t := (.object "java/lang/String")) (t' := (.object "com/example/jetway/jetway/FetchException$Kind")) (by decide) (by decide)), (fun _ z => nomatch z)⟩)⟩)⟩)⟩)⟩)⟩)
theorem own_wds {Z : State} {a0 : Array Value} (hw : ∀ d ∈ tables_1, d.before a0 Z = true) : ∀ d ∈ own_trw "com/example/jetway/jetway/FetchException", d.before a0 Z = true := fun d hd => hw d ((by decide +kernel : ∀ d ∈ own_trw "com/example/jetway/jetway/FetchException", d ∈ tables_1) d hd)

set_option maxRecDepth 65536 in
set_option maxHeartbeats 40000000 in
theorem rm_ie {l : Launch} {Z : State} {a0 : Array Value} (hw : ∀ d ∈ tables_1, d.before a0 Z = true) {o0 o1 : Addr} {cv : Value} {a_FAILED : Addr} {a_NOT_FOUND : Addr} {a_UNREACHABLE : Addr} {cz : Int32} {uS : Value} {sN : Value} {h0 : Heap} {n0 : Nat} (O : Old Z n0 h0) (W : Wd Z a_FAILED a_NOT_FOUND a_UNREACHABLE cz uS sN) (hl : l.stackTraces = true) (TH : ThS Z h0) (E0 : Exa Z h0 o0 "com/example/jetway/jetway/FetchException") (N0 : Unt h0 o0) (B0 : Fld Z h0 o0 "java/lang/Throwable" "backtrace" "Ljava/lang/Object;" .null) (D0 : Fld Z h0 o0 "java/lang/Throwable" "detailMessage" "Ljava/lang/String;" .null) (K0 : Fld Z h0 o0 "com/example/jetway/jetway/FetchException" "kind" "Lcom/example/jetway/jetway/FetchException$Kind;" .null) (G0 : n0 ≤ o0) (hcz : cv.isRef = true) :
    MetK0 l Z (⟨"java/lang/Exception", "<init>", "(Ljava/lang/String;Ljava/lang/Throwable;)V"⟩ : MethodName) jdk_59_method_3_code 3 none ({ frames := 4, cells := 1, slots := 2752, locals := 56 } : Room) #[(.ref o0), (.ref o1), cv] h0 n0 (fun h => Keep h0 h [o0] ∧ Exa Z h o0 "com/example/jetway/jetway/FetchException" ∧ Fld Z h o0 "com/example/jetway/jetway/FetchException" "kind" "Lcom/example/jetway/jetway/FetchException$Kind;" .null) := by
  refine metK_of (L := #[.val (.ref o0), .val (.ref o1), .val cv]) (plainFor_of_name pn_6) (fun m => by (cases cv <;> first | exact absurd hcz Bool.false_ne_true | skip) <;> first | (simp [entryFrame, mkF, argsToLocals, Value.category]; done) | rfl) ?_
  intro p e s m below meth c T hTK hBL hsh C X
  change Cx p s m meth c Z "java/lang/Exception" jdk_59_method_3_code 3 none "<init>" at C
  refine g_aloadN C X d9_0 (q := 1) rfl rfl rfl ?_
  refine g_aloadN C X d9_1 (q := 2) rfl rfl rfl ?_
  refine g_aloadN C X d9_2 (q := 3) rfl rfl hcz ?_
  refine g_callIK0 C X hTK hBL (y := (⟨"java/lang/Throwable", "<init>", "(Ljava/lang/String;Ljava/lang/Throwable;)V"⟩ : MethodName)) (a := o0) (by decide) rfl (w49 hw) (w50 hw) (w54 hw) (w53 hw) (own_tinit (rm := { frames := 3, cells := 1, slots := 2752, locals := 42 }) hl (own_wds hw) (w91 hw) (w87 hw) (w35 hw) TH (W.2.2.2.2.2.2.2.2.2.2.2.1.ext O.2) (W.2.2.2.2.2.2.2.2.2.2.2.2.2.1.ext O.2) W.2.2.2.2.2.2.2.2.2.2.2.2.1 W.2.2.2.2.2.2.2.2.2.2.2.2.2.2 rfl hcz E0 N0 B0 K0 (own_six hw) G0 (by decide) (by decide) (by decide) (by decide)) (W := 0) (by decide) (by decide) (k' := 1) rfl (n' := 2752) rfl (by decide) (by decide) rfl pd_4 (argsL := [(.ref o1), cv]) rfl (rest := []) rfl rfl rfl d9_3 (q := 6) rfl ?_
  rintro T1 h2 X3 ⟨K4, E5, F6⟩
  have O7 := O.keep K4 (allS G0 all0)
  exact g_retV C X3 d9_6 (by decide) (by decide) ⟨rfl, ((Keep.refl h0 [o0]).trans K4 (allS (Or.inl (List.mem_of_getElem? (i := 0) rfl)) all0)), E5, F6⟩
set_option maxRecDepth 65536 in
set_option maxHeartbeats 40000000 in
theorem rm_i3 {l : Launch} {Z : State} {a0 : Array Value} (hw : ∀ d ∈ tables_1, d.before a0 Z = true) {o0 o1 kk : Addr} {cv : Value} {a_FAILED : Addr} {a_NOT_FOUND : Addr} {a_UNREACHABLE : Addr} {cz : Int32} {uS : Value} {sN : Value} {h0 : Heap} {n0 : Nat} (O : Old Z n0 h0) (W : Wd Z a_FAILED a_NOT_FOUND a_UNREACHABLE cz uS sN) (hl : l.stackTraces = true) (TH : ThS Z h0) (E0 : Exa Z h0 o0 "com/example/jetway/jetway/FetchException") (N0 : Unt h0 o0) (B0 : Fld Z h0 o0 "java/lang/Throwable" "backtrace" "Ljava/lang/Object;" .null) (D0 : Fld Z h0 o0 "java/lang/Throwable" "detailMessage" "Ljava/lang/String;" .null) (K0 : Fld Z h0 o0 "com/example/jetway/jetway/FetchException" "kind" "Lcom/example/jetway/jetway/FetchException$Kind;" .null) (G0 : n0 ≤ o0) (hcz : cv.isRef = true) :
    MetK0 l Z (⟨"com/example/jetway/jetway/FetchException", "<init>", "(Ljava/lang/String;Ljava/lang/Throwable;Lcom/example/jetway/jetway/FetchException$Kind;)V"⟩ : MethodName) prog_30_method_3_code 4 none ({ frames := 5, cells := 1, slots := 2752, locals := 70 } : Room) #[(.ref o0), (.ref o1), cv, (.ref kk)] h0 n0 (fun h => Keep h0 h [o0] ∧ Exa Z h o0 "com/example/jetway/jetway/FetchException" ∧ Fld Z h o0 "com/example/jetway/jetway/FetchException" "kind" "Lcom/example/jetway/jetway/FetchException$Kind;" (.ref kk)) := by
  refine metK_of (L := #[.val (.ref o0), .val (.ref o1), .val cv, .val (.ref kk)]) (plainFor_of_name pn_15) (fun m => by (cases cv <;> first | exact absurd hcz Bool.false_ne_true | skip) <;> first | (simp [entryFrame, mkF, argsToLocals, Value.category]; done) | rfl) ?_
  intro p e s m below meth c T hTK hBL hsh C X
  change Cx p s m meth c Z "com/example/jetway/jetway/FetchException" prog_30_method_3_code 4 none "<init>" at C
  refine g_aloadN C X d8_0 (q := 1) rfl rfl rfl ?_
  refine g_aloadN C X d8_1 (q := 2) rfl rfl rfl ?_
  refine g_aloadN C X d8_2 (q := 3) rfl rfl hcz ?_
  refine g_callIK0 C X hTK hBL (y := (⟨"java/lang/Exception", "<init>", "(Ljava/lang/String;Ljava/lang/Throwable;)V"⟩ : MethodName)) (a := o0) (by decide) rfl (w44 hw) (w45 hw) (w48 hw) (w47 hw) (rm_ie hw (o1 := o1) (cv := cv) O W hl TH E0 N0 B0 D0 K0 G0 hcz) (W := 0) (by decide) (by decide) (k' := 1) rfl (n' := 2752) rfl (by decide) (by decide) rfl pd_4 (argsL := [(.ref o1), cv]) rfl (rest := []) rfl rfl rfl d8_3 (q := 6) rfl ?_
  rintro T1 h2 X3 ⟨K4, E5, F6⟩
  have O7 := O.keep K4 (allS G0 all0)
  refine g_aloadN C X3 d8_6 (q := 7) rfl rfl rfl ?_
  refine g_aloadN C X3 d8_7 (q := 8) rfl rfl rfl ?_
  refine g_putF C X3 (host := "") (Or.inl (w92 hw)) Via.refl F6 E5 (Or.inr ⟨(w93 hw), rfl, rfl⟩) (w35 hw) (ty := (.object "com/example/jetway/jetway/FetchException$Kind")) (by decide) rfl rfl d8_8 (q := 11) rfl G0 ?_
  intro T8 h10 X9 W11
  have FW11 := Fld.same W11 F6
  have O12 := O7.wr W11 G0
  exact g_retV C X9 d8_11 (by decide) (by decide) ⟨rfl, (((Keep.refl h0 [o0]).trans K4 (allS (Or.inl (List.mem_of_getElem? (i := 0) rfl)) all0)).wr W11 (Or.inl (List.mem_of_getElem? (i := 0) rfl))), (E5.wr W11), FW11⟩
set_option maxRecDepth 65536 in
set_option maxHeartbeats 40000000 in
theorem rm_i1 {l : Launch} {Z : State} {a0 : Array Value} (hw : ∀ d ∈ tables_1, d.before a0 Z = true) {o0 o1 : Addr} {a_FAILED : Addr} {a_NOT_FOUND : Addr} {a_UNREACHABLE : Addr} {cz : Int32} {uS : Value} {sN : Value} {h0 : Heap} {n0 : Nat} (O : Old Z n0 h0) (W : Wd Z a_FAILED a_NOT_FOUND a_UNREACHABLE cz uS sN) (hl : l.stackTraces = true) (TH : ThS Z h0) (E0 : Exa Z h0 o0 "com/example/jetway/jetway/FetchException") (N0 : Unt h0 o0) (B0 : Fld Z h0 o0 "java/lang/Throwable" "backtrace" "Ljava/lang/Object;" .null) (D0 : Fld Z h0 o0 "java/lang/Throwable" "detailMessage" "Ljava/lang/String;" .null) (K0 : Fld Z h0 o0 "com/example/jetway/jetway/FetchException" "kind" "Lcom/example/jetway/jetway/FetchException$Kind;" .null) (G0 : n0 ≤ o0) :
    MetK0 l Z (⟨"com/example/jetway/jetway/FetchException", "<init>", "(Ljava/lang/String;)V"⟩ : MethodName) prog_30_method_1_code 2 none ({ frames := 6, cells := 1, slots := 2752, locals := 85 } : Room) #[(.ref o0), (.ref o1)] h0 n0 (fun h => Keep h0 h [o0] ∧ Exa Z h o0 "com/example/jetway/jetway/FetchException" ∧ Fld Z h o0 "com/example/jetway/jetway/FetchException" "kind" "Lcom/example/jetway/jetway/FetchException$Kind;" (.ref a_FAILED)) := by
  refine metK_of (L := #[.val (.ref o0), .val (.ref o1)]) (plainFor_of_name pn_15) (fun m => by first | (simp [entryFrame, mkF, argsToLocals, Value.category]; done) | rfl) ?_
  intro p e s m below meth c T hTK hBL hsh C X
  change Cx p s m meth c Z "com/example/jetway/jetway/FetchException" prog_30_method_1_code 2 none "<init>" at C
  refine g_aloadN C X d7_0 (q := 1) rfl rfl rfl ?_
  refine g_aloadN C X d7_1 (q := 2) rfl rfl rfl ?_
  refine g_aconstNull C X d7_2 (q := 3) rfl ?_
  refine g_getS C X (host := "") (Or.inl (w40 hw)) Via.refl (W.1.ext O.2) d7_3 (q := 6) rfl ?_
  intro T1 X2
  refine g_callIK0 C X2 hTK hBL (y := (⟨"com/example/jetway/jetway/FetchException", "<init>", "(Ljava/lang/String;Ljava/lang/Throwable;Lcom/example/jetway/jetway/FetchException$Kind;)V"⟩ : MethodName)) (a := o0) (by decide) rfl (w41 hw) (w42 hw) (w43 hw) (w36 hw) (rm_i3 hw (o1 := o1) (cv := .null) (kk := a_FAILED) O W hl TH E0 N0 B0 D0 K0 G0 rfl) (W := 0) (by decide) (by decide) (k' := 1) rfl (n' := 2752) rfl (by decide) (by decide) rfl pd_21 (argsL := [(.ref o1), .null, (.ref a_FAILED)]) rfl (rest := []) rfl rfl rfl d7_6 (q := 9) rfl ?_
  rintro T3 h4 X5 ⟨K6, E7, F8⟩
  have O9 := O.keep K6 (allS G0 all0)
  exact g_retV C X5 d7_9 (by decide) (by decide) ⟨rfl, ((Keep.refl h0 [o0]).trans K6 (allS (Or.inl (List.mem_of_getElem? (i := 0) rfl)) all0)), E7, F8⟩
set_option maxRecDepth 65536 in
set_option maxHeartbeats 40000000 in
theorem rm_i2 {l : Launch} {Z : State} {a0 : Array Value} (hw : ∀ d ∈ tables_1, d.before a0 Z = true) {o0 o1 : Addr} {cv : Value} {a_FAILED : Addr} {a_NOT_FOUND : Addr} {a_UNREACHABLE : Addr} {cz : Int32} {uS : Value} {sN : Value} {h0 : Heap} {n0 : Nat} (O : Old Z n0 h0) (W : Wd Z a_FAILED a_NOT_FOUND a_UNREACHABLE cz uS sN) (hl : l.stackTraces = true) (TH : ThS Z h0) (E0 : Exa Z h0 o0 "com/example/jetway/jetway/FetchException") (N0 : Unt h0 o0) (B0 : Fld Z h0 o0 "java/lang/Throwable" "backtrace" "Ljava/lang/Object;" .null) (D0 : Fld Z h0 o0 "java/lang/Throwable" "detailMessage" "Ljava/lang/String;" .null) (K0 : Fld Z h0 o0 "com/example/jetway/jetway/FetchException" "kind" "Lcom/example/jetway/jetway/FetchException$Kind;" .null) (G0 : n0 ≤ o0) (hcz : cv.isRef = true) :
    MetK0 l Z (⟨"com/example/jetway/jetway/FetchException", "<init>", "(Ljava/lang/String;Ljava/lang/Throwable;)V"⟩ : MethodName) prog_30_method_2_code 3 none ({ frames := 6, cells := 1, slots := 2752, locals := 85 } : Room) #[(.ref o0), (.ref o1), cv] h0 n0 (fun h => Keep h0 h [o0] ∧ Exa Z h o0 "com/example/jetway/jetway/FetchException" ∧ Fld Z h o0 "com/example/jetway/jetway/FetchException" "kind" "Lcom/example/jetway/jetway/FetchException$Kind;" (.ref a_FAILED)) := by
  refine metK_of (L := #[.val (.ref o0), .val (.ref o1), .val cv]) (plainFor_of_name pn_15) (fun m => by (cases cv <;> first | exact absurd hcz Bool.false_ne_true | skip) <;> first | (simp [entryFrame, mkF, argsToLocals, Value.category]; done) | rfl) ?_
  intro p e s m below meth c T hTK hBL hsh C X
  change Cx p s m meth c Z "com/example/jetway/jetway/FetchException" prog_30_method_2_code 3 none "<init>" at C
  refine g_aloadN C X d13_0 (q := 1) rfl rfl rfl ?_
  refine g_aloadN C X d13_1 (q := 2) rfl rfl rfl ?_
  refine g_aloadN C X d13_2 (q := 3) rfl rfl hcz ?_
  refine g_getS C X (host := "") (Or.inl (w40 hw)) Via.refl (W.1.ext O.2) d13_3 (q := 6) rfl ?_
  intro T1 X2
  refine g_callIK0 C X2 hTK hBL (y := (⟨"com/example/jetway/jetway/FetchException", "<init>", "(Ljava/lang/String;Ljava/lang/Throwable;Lcom/example/jetway/jetway/FetchException$Kind;)V"⟩ : MethodName)) (a := o0) (by decide) rfl (w41 hw) (w42 hw) (w43 hw) (w36 hw) (rm_i3 hw (o1 := o1) (cv := cv) (kk := a_FAILED) O W hl TH E0 N0 B0 D0 K0 G0 hcz) (W := 0) (by decide) (by decide) (k' := 1) rfl (n' := 2752) rfl (by decide) (by decide) rfl pd_21 (argsL := [(.ref o1), cv, (.ref a_FAILED)]) rfl (rest := []) rfl rfl rfl d13_6 (q := 9) rfl ?_
  rintro T3 h4 X5 ⟨K6, E7, F8⟩
  have O9 := O.keep K6 (allS G0 all0)
  exact g_retV C X5 d13_9 (by decide) (by decide) ⟨rfl, ((Keep.refl h0 [o0]).trans K6 (allS (Or.inl (List.mem_of_getElem? (i := 0) rfl)) all0)), E7, F8⟩
set_option maxRecDepth 65536 in
set_option maxHeartbeats 40000000 in
theorem rm_notFound_0 {l : Launch} {Z : State} {a0 : Array Value} (hw : ∀ d ∈ tables_1, d.before a0 Z = true) {a_FAILED : Addr} {a_NOT_FOUND : Addr} {a_UNREACHABLE : Addr} {cz : Int32} {uS : Value} {sN : Value} {o0 : Addr} {h0 : Heap} {n0 : Nat} (O : Old Z n0 h0) (W : Wd Z a_FAILED a_NOT_FOUND a_UNREACHABLE cz uS sN)  (P0 : Exa Z h0 o0 "com/example/jetway/jetway/FetchException") (P1 : Fld Z h0 o0 "com/example/jetway/jetway/FetchException" "kind" "Lcom/example/jetway/jetway/FetchException$Kind;" (.ref a_FAILED)) (G0 : n0 ≤ o0) :
    Met1 l Z (⟨"com/example/jetway/jetway/FetchException", "notFound", "()Z"⟩ : MethodName) prog_30_method_5_code 1 (some .boolean) ({ frames := 0, cells := 0, slots := 0, locals := 0 } : Room) #[(.ref o0)] h0 n0 (fun v h => v = (.int (0 : Int32)) ∧ h0 = h) := by
  refine met_of (L := #[.val (.ref o0)]) (plainFor_of_name pn_15) (fun m => by first | (simp [entryFrame, mkF, argsToLocals, Value.category]; done) | rfl) ?_
  intro p e s m below meth c T C X
  change Cx p s m meth c Z "com/example/jetway/jetway/FetchException" prog_30_method_5_code 1 (some .boolean) "notFound" at C
  refine g_aloadN C X d14_0 (q := 1) rfl rfl rfl ?_
  refine g_getF C X (host := "") (Or.inl (w92 hw)) Via.refl P1 d14_1 (q := 4) rfl ?_
  intro T1 X2
  refine g_getS C X2 (host := "") (Or.inl (w103 hw)) Via.refl (W.2.2.1.ext O.2) d14_4 (q := 7) rfl ?_
  intro T3 X4
  refine g_acmp C X4 d14_7 rfl rfl (same := false) (decide_eq_false fun z => (Fld.ne W.2.2.2.2.1 W.2.2.2.2.2.1 (by decide)) (Value.ref.inj z)) (by decide) (q := 14) (by decide) ?_
  refine g_iconst C X4 d14_14 (q := 15) rfl (z := (0 : Int32)) rfl ?_
  exact g_retN C X4 (Or.inl rfl) (z' := (0 : Int32)) (by decide) d14_15 (by decide) (by decide) ⟨_, rfl, rfl, rfl⟩
set_option maxRecDepth 65536 in
set_option maxHeartbeats 40000000 in
theorem rm_unreachable_0 {l : Launch} {Z : State} {a0 : Array Value} (hw : ∀ d ∈ tables_1, d.before a0 Z = true) {a_FAILED : Addr} {a_NOT_FOUND : Addr} {a_UNREACHABLE : Addr} {cz : Int32} {uS : Value} {sN : Value} {o0 : Addr} {h0 : Heap} {n0 : Nat} (O : Old Z n0 h0) (W : Wd Z a_FAILED a_NOT_FOUND a_UNREACHABLE cz uS sN)  (P0 : Exa Z h0 o0 "com/example/jetway/jetway/FetchException") (P1 : Fld Z h0 o0 "com/example/jetway/jetway/FetchException" "kind" "Lcom/example/jetway/jetway/FetchException$Kind;" (.ref a_FAILED)) (G0 : n0 ≤ o0) :
    Met1 l Z (⟨"com/example/jetway/jetway/FetchException", "unreachable", "()Z"⟩ : MethodName) prog_30_method_4_code 1 (some .boolean) ({ frames := 0, cells := 0, slots := 0, locals := 0 } : Room) #[(.ref o0)] h0 n0 (fun v h => v = (.int (0 : Int32)) ∧ h0 = h) := by
  refine met_of (L := #[.val (.ref o0)]) (plainFor_of_name pn_15) (fun m => by first | (simp [entryFrame, mkF, argsToLocals, Value.category]; done) | rfl) ?_
  intro p e s m below meth c T C X
  change Cx p s m meth c Z "com/example/jetway/jetway/FetchException" prog_30_method_4_code 1 (some .boolean) "unreachable" at C
  refine g_aloadN C X d15_0 (q := 1) rfl rfl rfl ?_
  refine g_getF C X (host := "") (Or.inl (w92 hw)) Via.refl P1 d15_1 (q := 4) rfl ?_
  intro T1 X2
  refine g_getS C X2 (host := "") (Or.inl (w110 hw)) Via.refl (W.2.2.2.2.2.2.1.ext O.2) d15_4 (q := 7) rfl ?_
  intro T3 X4
  refine g_acmp C X4 d15_7 rfl rfl (same := false) (decide_eq_false fun z => (Fld.ne W.2.2.2.2.1 W.2.2.2.2.2.2.2.2.1 (by decide)) (Value.ref.inj z)) (by decide) (q := 14) (by decide) ?_
  refine g_iconst C X4 d15_14 (q := 15) rfl (z := (0 : Int32)) rfl ?_
  exact g_retN C X4 (Or.inl rfl) (z' := (0 : Int32)) (by decide) d15_15 (by decide) (by decide) ⟨_, rfl, rfl, rfl⟩
set_option maxRecDepth 65536 in
set_option maxHeartbeats 40000000 in
theorem rm_notFound_1 {l : Launch} {Z : State} {a0 : Array Value} (hw : ∀ d ∈ tables_1, d.before a0 Z = true) {a_FAILED : Addr} {a_NOT_FOUND : Addr} {a_UNREACHABLE : Addr} {cz : Int32} {uS : Value} {sN : Value} {o0 : Addr} {h0 : Heap} {n0 : Nat} (O : Old Z n0 h0) (W : Wd Z a_FAILED a_NOT_FOUND a_UNREACHABLE cz uS sN)  (P0 : Exa Z h0 o0 "com/example/jetway/jetway/FetchException") (P1 : Fld Z h0 o0 "com/example/jetway/jetway/FetchException" "kind" "Lcom/example/jetway/jetway/FetchException$Kind;" (.ref a_UNREACHABLE)) (G0 : n0 ≤ o0) :
    Met1 l Z (⟨"com/example/jetway/jetway/FetchException", "notFound", "()Z"⟩ : MethodName) prog_30_method_5_code 1 (some .boolean) ({ frames := 0, cells := 0, slots := 0, locals := 0 } : Room) #[(.ref o0)] h0 n0 (fun v h => v = (.int (0 : Int32)) ∧ h0 = h) := by
  refine met_of (L := #[.val (.ref o0)]) (plainFor_of_name pn_15) (fun m => by first | (simp [entryFrame, mkF, argsToLocals, Value.category]; done) | rfl) ?_
  intro p e s m below meth c T C X
  change Cx p s m meth c Z "com/example/jetway/jetway/FetchException" prog_30_method_5_code 1 (some .boolean) "notFound" at C
  refine g_aloadN C X d14_0 (q := 1) rfl rfl rfl ?_
  refine g_getF C X (host := "") (Or.inl (w92 hw)) Via.refl P1 d14_1 (q := 4) rfl ?_
  intro T1 X2
  refine g_getS C X2 (host := "") (Or.inl (w103 hw)) Via.refl (W.2.2.1.ext O.2) d14_4 (q := 7) rfl ?_
  intro T3 X4
  refine g_acmp C X4 d14_7 rfl rfl (same := false) (decide_eq_false fun z => (Ne.symm (Fld.ne W.2.2.2.2.2.1 W.2.2.2.2.2.2.2.2.1 (by decide))) (Value.ref.inj z)) (by decide) (q := 14) (by decide) ?_
  refine g_iconst C X4 d14_14 (q := 15) rfl (z := (0 : Int32)) rfl ?_
  exact g_retN C X4 (Or.inl rfl) (z' := (0 : Int32)) (by decide) d14_15 (by decide) (by decide) ⟨_, rfl, rfl, rfl⟩
set_option maxRecDepth 65536 in
set_option maxHeartbeats 40000000 in
theorem rm_unreachable_1 {l : Launch} {Z : State} {a0 : Array Value} (hw : ∀ d ∈ tables_1, d.before a0 Z = true) {a_FAILED : Addr} {a_NOT_FOUND : Addr} {a_UNREACHABLE : Addr} {cz : Int32} {uS : Value} {sN : Value} {o0 : Addr} {h0 : Heap} {n0 : Nat} (O : Old Z n0 h0) (W : Wd Z a_FAILED a_NOT_FOUND a_UNREACHABLE cz uS sN)  (P0 : Exa Z h0 o0 "com/example/jetway/jetway/FetchException") (P1 : Fld Z h0 o0 "com/example/jetway/jetway/FetchException" "kind" "Lcom/example/jetway/jetway/FetchException$Kind;" (.ref a_UNREACHABLE)) (G0 : n0 ≤ o0) :
    Met1 l Z (⟨"com/example/jetway/jetway/FetchException", "unreachable", "()Z"⟩ : MethodName) prog_30_method_4_code 1 (some .boolean) ({ frames := 0, cells := 0, slots := 0, locals := 0 } : Room) #[(.ref o0)] h0 n0 (fun v h => v = (.int (1 : Int32)) ∧ h0 = h) := by
  refine met_of (L := #[.val (.ref o0)]) (plainFor_of_name pn_15) (fun m => by first | (simp [entryFrame, mkF, argsToLocals, Value.category]; done) | rfl) ?_
  intro p e s m below meth c T C X
  change Cx p s m meth c Z "com/example/jetway/jetway/FetchException" prog_30_method_4_code 1 (some .boolean) "unreachable" at C
  refine g_aloadN C X d15_0 (q := 1) rfl rfl rfl ?_
  refine g_getF C X (host := "") (Or.inl (w92 hw)) Via.refl P1 d15_1 (q := 4) rfl ?_
  intro T1 X2
  refine g_getS C X2 (host := "") (Or.inl (w110 hw)) Via.refl (W.2.2.2.2.2.2.1.ext O.2) d15_4 (q := 7) rfl ?_
  intro T3 X4
  refine g_acmp C X4 d15_7 rfl rfl (same := true) (decide_eq_true rfl) (by decide) (q := 10) (by decide) ?_
  refine g_iconst C X4 d15_10 (q := 11) rfl (z := (1 : Int32)) rfl ?_
  refine g_goto C X4 d15_11 (by decide) (q := 15) (by decide) ?_
  exact g_retN C X4 (Or.inl rfl) (z' := (1 : Int32)) (by decide) d15_15 (by decide) (by decide) ⟨_, rfl, rfl, rfl⟩
set_option maxRecDepth 65536 in
set_option maxHeartbeats 40000000 in
theorem rm_notFound_2 {l : Launch} {Z : State} {a0 : Array Value} (hw : ∀ d ∈ tables_1, d.before a0 Z = true) {a_FAILED : Addr} {a_NOT_FOUND : Addr} {a_UNREACHABLE : Addr} {cz : Int32} {uS : Value} {sN : Value} {o0 : Addr} {h0 : Heap} {n0 : Nat} (O : Old Z n0 h0) (W : Wd Z a_FAILED a_NOT_FOUND a_UNREACHABLE cz uS sN)  (P0 : Exa Z h0 o0 "com/example/jetway/jetway/FetchException") (P1 : Fld Z h0 o0 "com/example/jetway/jetway/FetchException" "kind" "Lcom/example/jetway/jetway/FetchException$Kind;" (.ref a_NOT_FOUND)) (G0 : n0 ≤ o0) :
    Met1 l Z (⟨"com/example/jetway/jetway/FetchException", "notFound", "()Z"⟩ : MethodName) prog_30_method_5_code 1 (some .boolean) ({ frames := 0, cells := 0, slots := 0, locals := 0 } : Room) #[(.ref o0)] h0 n0 (fun v h => v = (.int (1 : Int32)) ∧ h0 = h) := by
  refine met_of (L := #[.val (.ref o0)]) (plainFor_of_name pn_15) (fun m => by first | (simp [entryFrame, mkF, argsToLocals, Value.category]; done) | rfl) ?_
  intro p e s m below meth c T C X
  change Cx p s m meth c Z "com/example/jetway/jetway/FetchException" prog_30_method_5_code 1 (some .boolean) "notFound" at C
  refine g_aloadN C X d14_0 (q := 1) rfl rfl rfl ?_
  refine g_getF C X (host := "") (Or.inl (w92 hw)) Via.refl P1 d14_1 (q := 4) rfl ?_
  intro T1 X2
  refine g_getS C X2 (host := "") (Or.inl (w103 hw)) Via.refl (W.2.2.1.ext O.2) d14_4 (q := 7) rfl ?_
  intro T3 X4
  refine g_acmp C X4 d14_7 rfl rfl (same := true) (decide_eq_true rfl) (by decide) (q := 10) (by decide) ?_
  refine g_iconst C X4 d14_10 (q := 11) rfl (z := (1 : Int32)) rfl ?_
  refine g_goto C X4 d14_11 (by decide) (q := 15) (by decide) ?_
  exact g_retN C X4 (Or.inl rfl) (z' := (1 : Int32)) (by decide) d14_15 (by decide) (by decide) ⟨_, rfl, rfl, rfl⟩
set_option maxRecDepth 65536 in
set_option maxHeartbeats 40000000 in
theorem rm_unreachable_2 {l : Launch} {Z : State} {a0 : Array Value} (hw : ∀ d ∈ tables_1, d.before a0 Z = true) {a_FAILED : Addr} {a_NOT_FOUND : Addr} {a_UNREACHABLE : Addr} {cz : Int32} {uS : Value} {sN : Value} {o0 : Addr} {h0 : Heap} {n0 : Nat} (O : Old Z n0 h0) (W : Wd Z a_FAILED a_NOT_FOUND a_UNREACHABLE cz uS sN)  (P0 : Exa Z h0 o0 "com/example/jetway/jetway/FetchException") (P1 : Fld Z h0 o0 "com/example/jetway/jetway/FetchException" "kind" "Lcom/example/jetway/jetway/FetchException$Kind;" (.ref a_NOT_FOUND)) (G0 : n0 ≤ o0) :
    Met1 l Z (⟨"com/example/jetway/jetway/FetchException", "unreachable", "()Z"⟩ : MethodName) prog_30_method_4_code 1 (some .boolean) ({ frames := 0, cells := 0, slots := 0, locals := 0 } : Room) #[(.ref o0)] h0 n0 (fun v h => v = (.int (0 : Int32)) ∧ h0 = h) := by
  refine met_of (L := #[.val (.ref o0)]) (plainFor_of_name pn_15) (fun m => by first | (simp [entryFrame, mkF, argsToLocals, Value.category]; done) | rfl) ?_
  intro p e s m below meth c T C X
  change Cx p s m meth c Z "com/example/jetway/jetway/FetchException" prog_30_method_4_code 1 (some .boolean) "unreachable" at C
  refine g_aloadN C X d15_0 (q := 1) rfl rfl rfl ?_
  refine g_getF C X (host := "") (Or.inl (w92 hw)) Via.refl P1 d15_1 (q := 4) rfl ?_
  intro T1 X2
  refine g_getS C X2 (host := "") (Or.inl (w110 hw)) Via.refl (W.2.2.2.2.2.2.1.ext O.2) d15_4 (q := 7) rfl ?_
  intro T3 X4
  refine g_acmp C X4 d15_7 rfl rfl (same := false) (decide_eq_false fun z => (Fld.ne W.2.2.2.2.2.1 W.2.2.2.2.2.2.2.2.1 (by decide)) (Value.ref.inj z)) (by decide) (q := 14) (by decide) ?_
  refine g_iconst C X4 d15_14 (q := 15) rfl (z := (0 : Int32)) rfl ?_
  exact g_retN C X4 (Or.inl rfl) (z' := (0 : Int32)) (by decide) d15_15 (by decide) (by decide) ⟨_, rfl, rfl, rfl⟩
set_option maxRecDepth 65536 in
set_option maxHeartbeats 40000000 in
theorem rmLaw {l : Launch} {Z : State} {a0 : Array Value} (hw : ∀ d ∈ tables_1, d.before a0 Z = true) {p0 p1 p2 p3 : Int32} {a_FAILED : Addr} {a_NOT_FOUND : Addr} {a_UNREACHABLE : Addr} {cz : Int32} {uS : Value} {sN : Value} {h0 : Heap} {n0 : Nat} (O : Old Z n0 h0) (W : Wd Z a_FAILED a_NOT_FOUND a_UNREACHABLE cz uS sN) (hl : l.stackTraces = true) (TH : ThS Z h0) :
    MetK1 l Z x code maxLocals ret room_1 #[(.int p0), (.int p1), (.int p2), (.int p3)] h0 n0 (fun v h => v = .int 1 ∧ True) := by
  refine metK_of (L := #[.val (.int p0), .val (.int p1), .val (.int p2), .val (.int p3), .unset, .unset, .unset, .unset, .unset, .unset, .unset, .unset, .unset, .unset, .unset]) (plainFor_of_name pn_47) (fun m => by first | (simp [entryFrame, mkF, argsToLocals, Value.category, maxLocals]; done) | rfl) ?_
  intro p e s m below meth c T hTK hBL hsh C X
  change Cx p s m meth c Z "com/example/jetway/jetway/FetchExceptionNotFoundPinLaw" code 15 (some .boolean) "law" at C
  change Goes p e below (FinN _ s n0 32 22208) _
  refine g_iloadN C X at_0 (q := 1) rfl rfl ?_
  refine g_ldcI C X (w0 hw) at_1 (q := 3) rfl ?_
  obtain ⟨v1, ev1⟩ : ∃ z, (p0 &&& (2147483647 : Int32)) = z := ⟨_, rfl⟩
  have hl2 : 0 ≤ v1.toInt := by rw [← ev1]; exact (c_and p0 (2147483647 : Int32) (by decide)).1
  have hh3 : v1.toInt ≤ 2147483647 := by rw [← ev1]; exact (c_and p0 (2147483647 : Int32) (by decide)).2
  refine g_iand C X at_3 (q := 4) rfl (z := v1) ev1 ?_
  refine g_iconst C X at_4 (q := 5) rfl (z := (3 : Int32)) rfl ?_
  obtain ⟨v4, ev4⟩ : ∃ z, (v1 % (3 : Int32)) = z := ⟨_, rfl⟩
  have hl5 : 0 ≤ v4.toInt := by rw [← ev4]; exact (own_rem (y := (3 : Int32)) (d := 2) (by decide) (by decide) (Int.le_trans (by decide) hl2)).1
  have hh6 : v4.toInt ≤ 2 := by rw [← ev4]; exact (own_rem (y := (3 : Int32)) (d := 2) (by decide) (by decide) (Int.le_trans (by decide) hl2)).2
  refine g_irem C X at_5 (q := 6) rfl (by decide) (z := v4) ev4 ?_
  refine g_istore C X at_6 (q := 8) rfl (L' := #[.val (.int p0), .val (.int p1), .val (.int p2), .val (.int p3), .val (.int v4), .unset, .unset, .unset, .unset, .unset, .unset, .unset, .unset, .unset, .unset]) rfl ?_
  refine g_iconst C X at_8 (q := 9) rfl (z := (2 : Int32)) rfl ?_
  refine g_newP C X (w1 hw) rfl at_9 (q := 11) rfl (by decide) (cap := 2) (by decide) (by decide) (k' := 1) rfl (n' := 2) rfl (by decide) (by decide) ?_
  intro T8 h9 kA10 b7 g12 X11 E13 V14
  have ge15 : n0 ≤ b7 := own_ge O g12
  have O16 := O.ext E13
  have V17 : Arv Z h9 b7 kA10 .char (2 : Int32) [(.int (0 : Int32)), (.int (0 : Int32))] (.int (0 : Int32)) := Arv.pad V14 (pad_rep [] _ 2)
  have Y18 := Yar.of V17
  refine g_dup C X11 at_11 (q := 12) rfl rfl ?_
  refine g_iconst C X11 at_12 (q := 13) rfl (z := (0 : Int32)) rfl ?_
  refine g_iloadN C X11 at_13 (q := 14) rfl rfl ?_
  refine g_sipush C X11 at_14 (q := 17) rfl (z := (255 : Int32)) rfl ?_
  obtain ⟨v19, ev19⟩ : ∃ z, (p1 &&& (255 : Int32)) = z := ⟨_, rfl⟩
  have hl20 : 0 ≤ v19.toInt := by rw [← ev19]; exact (c_and p1 (255 : Int32) (by decide)).1
  have hh21 : v19.toInt ≤ 255 := by rw [← ev19]; exact (c_and p1 (255 : Int32) (by decide)).2
  refine g_iand C X11 at_17 (q := 18) rfl (z := v19) ev19 ?_
  refine g_i2c C X11 at_18 (q := 19) rfl (z := v19) (own_i2c hl20 hh21 (by decide) (by decide)) ?_
  refine g_castore C X11 V17 (by decide) (i := 0) (by decide) (Nat.le_of_ble_eq_true rfl) (vs' := [(.int v19), (.int (0 : Int32))]) (by rw [own_narC hl20 hh21 (by decide) (by decide)]; rfl) ge15 at_19 (q := 20) rfl ?_
  intro T22 h23 X24 W25 V26
  have O27 := O16.wr W25 ge15
  refine g_dup C X24 at_20 (q := 21) rfl rfl ?_
  refine g_iconst C X24 at_21 (q := 22) rfl (z := (1 : Int32)) rfl ?_
  refine g_iloadN C X24 at_22 (q := 23) rfl rfl ?_
  refine g_sipush C X24 at_23 (q := 26) rfl (z := (255 : Int32)) rfl ?_
  obtain ⟨v28, ev28⟩ : ∃ z, (p2 &&& (255 : Int32)) = z := ⟨_, rfl⟩
  have hl29 : 0 ≤ v28.toInt := by rw [← ev28]; exact (c_and p2 (255 : Int32) (by decide)).1
  have hh30 : v28.toInt ≤ 255 := by rw [← ev28]; exact (c_and p2 (255 : Int32) (by decide)).2
  refine g_iand C X24 at_26 (q := 27) rfl (z := v28) ev28 ?_
  refine g_i2c C X24 at_27 (q := 28) rfl (z := v28) (own_i2c hl29 hh30 (by decide) (by decide)) ?_
  refine g_castore C X24 V26 (by decide) (i := 1) (by decide) (Nat.le_of_ble_eq_true rfl) (vs' := [(.int v19), (.int v28)]) (by rw [own_narC hl29 hh30 (by decide) (by decide)]; rfl) ge15 at_28 (q := 29) rfl ?_
  intro T31 h32 X33 W34 V35
  have O36 := O27.wr W34 ge15
  refine g_astore C X33 at_29 (q := 31) rfl rfl (L' := #[.val (.int p0), .val (.int p1), .val (.int p2), .val (.int p3), .val (.int v4), .val (.ref b7), .unset, .unset, .unset, .unset, .unset, .unset, .unset, .unset, .unset]) rfl ?_
  refine g_newU C X33 (w2 hw) (w3 hw) (w4 hw) at_31 (q := 34) rfl (k' := 2) rfl (n' := 6) rfl (by decide) (by decide) ?_
  intro T38 h39 b37 g41 X40 E42 A43 D44 U45
  have ge46 : n0 ≤ b37 := own_ge O36 g41
  have O47 := O36.ext E42
  have f48 : Fld Z h39 b37 "java/lang/String" "coder" "B" (.int (0 : Int32)) := D44 (Or.inr (w28 hw)) (ty := .byte) (by decide)
  have f49 : Fld Z h39 b37 "java/lang/String" "value" "[B" .null := D44 (Or.inr (w30 hw)) (ty := (.array .byte)) (by decide)
  refine g_dup C X40 at_34 (q := 35) rfl rfl ?_
  refine g_aload C X40 at_35 (q := 37) rfl rfl rfl ?_
  have f50 := (V35.ext E42)
  refine g_strNew C X40 (cs := [v19, v28]) (own_words hw) (w3 hw) (w5 hw) (w6 hw) A43 f49 f48 f50 (W.2.2.2.2.2.2.2.2.2.1.ext O47.2) W.2.2.2.2.2.2.2.2.2.2.1 (len := 2) rfl rfl (by decide) (by decide) (List.forall_mem_cons.mpr ⟨(own_ch hl20 hh21 (by decide) (by decide)), (List.forall_mem_cons.mpr ⟨(own_ch hl29 hh30 (by decide) (by decide)), (fun _ z => nomatch z)⟩)⟩) ge46 (own_szO O47) (W := 1) (by decide) (by decide) (k' := 3) rfl (n' := 8) rfl (by decide) (by decide) rfl rfl at_37 (q := 40) rfl ?_
  intro T51 h52 X53 K54 F55
  have O56 := O47.keep K54 (allS ge46 all0)
  refine g_astore C X53 at_40 (q := 42) rfl rfl (L' := #[.val (.int p0), .val (.int p1), .val (.int p2), .val (.int p3), .val (.int v4), .val (.ref b7), .val (.ref b37), .unset, .unset, .unset, .unset, .unset, .unset, .unset, .unset]) rfl ?_
  refine g_iload C X53 at_42 (q := 44) rfl rfl ?_
  by_cases hc57 : v4 = (0 : Int32)
  · refine g_ifN C X53 at_44 (q := 47) rfl (teq hc57).2 ?_
    obtain rfl : v4 = (0 : Int32) := hc57
    refine g_getS C X53 (host := "") (Or.inl (w31 hw)) Via.refl (W.1.ext O56.2) at_47 (q := 50) rfl ?_
    intro T59 X60
    refine g_astore C X60 at_50 (q := 52) rfl rfl (L' := #[.val (.int p0), .val (.int p1), .val (.int p2), .val (.int p3), .val (.int (0 : Int32)), .val (.ref b7), .val (.ref b37), .val (.ref a_FAILED), .unset, .unset, .unset, .unset, .unset, .unset, .unset]) rfl ?_
    refine g_goto C X60 at_52 (by decide) (q := 74) (by decide) ?_
    refine g_aconstNull C X60 at_74 (q := 75) rfl ?_
    refine g_astore C X60 at_75 (q := 77) rfl rfl (L' := #[.val (.int p0), .val (.int p1), .val (.int p2), .val (.int p3), .val (.int (0 : Int32)), .val (.ref b7), .val (.ref b37), .val (.ref a_FAILED), .val .null, .unset, .unset, .unset, .unset, .unset, .unset]) rfl ?_
    refine g_iloadN C X60 at_77 (q := 78) rfl rfl ?_
    refine g_iconst C X60 at_78 (q := 79) rfl (z := (1 : Int32)) rfl ?_
    obtain ⟨v61, ev61⟩ : ∃ z, (p3 &&& (1 : Int32)) = z := ⟨_, rfl⟩
    have hl62 : 0 ≤ v61.toInt := by rw [← ev61]; exact (c_and p3 (1 : Int32) (by decide)).1
    have hh63 : v61.toInt ≤ 1 := by rw [← ev61]; exact (c_and p3 (1 : Int32) (by decide)).2
    refine g_iand C X60 at_79 (q := 80) rfl (z := v61) ev61 ?_
    by_cases hc64 : v61 = (0 : Int32)
    · refine g_ifY C X60 at_80 (by decide) (q := 94) (by decide) (teq hc64).1 ?_
      obtain rfl : v61 = (0 : Int32) := hc64
      refine g_newU C X60 (w34 hw) (w35 hw) (w36 hw) at_94 (q := 97) rfl (k' := 4) rfl (n' := 15) rfl (by decide) (by decide) ?_
      intro T67 h68 b66 g70 X69 E71 A72 D73 U74
      have ge75 : n0 ≤ b66 := own_ge O56 g70
      have O76 := O56.ext E71
      have f77 : Fld Z h68 b66 "java/lang/Throwable" "cause" "Ljava/lang/Throwable;" .null := D73 (Or.inl (w57 hw)) (ty := (.object "java/lang/Throwable")) (by decide)
      have f78 : Fld Z h68 b66 "java/lang/Throwable" "stackTrace" "[Ljava/lang/StackTraceElement;" .null := D73 (Or.inl (w60 hw)) (ty := (.array (.object "java/lang/StackTraceElement"))) (by decide)
      have f79 : Fld Z h68 b66 "java/lang/Throwable" "suppressedExceptions" "Ljava/util/List;" .null := D73 (Or.inl (w63 hw)) (ty := (.object "java/util/List")) (by decide)
      have f80 : Fld Z h68 b66 "java/lang/Throwable" "detailMessage" "Ljava/lang/String;" .null := D73 (Or.inl (w87 hw)) (ty := (.object "java/lang/String")) (by decide)
      have f81 : Fld Z h68 b66 "java/lang/Throwable" "backtrace" "Ljava/lang/Object;" .null := D73 (Or.inl (w88 hw)) (ty := (.object "java/lang/Object")) (by decide)
      have f82 : Fld Z h68 b66 "java/lang/Throwable" "depth" "I" (.int (0 : Int32)) := D73 (Or.inl (w89 hw)) (ty := .int) (by decide)
      have f83 : Fld Z h68 b66 "com/example/jetway/jetway/FetchException" "kind" "Lcom/example/jetway/jetway/FetchException$Kind;" .null := D73 (Or.inr (w93 hw)) (ty := (.object "com/example/jetway/jetway/FetchException$Kind")) (by decide)
      refine g_dup C X69 at_97 (q := 98) rfl rfl ?_
      refine g_aload C X69 at_98 (q := 100) rfl rfl rfl ?_
      refine g_aload C X69 at_100 (q := 102) rfl rfl rfl ?_
      refine g_aload C X69 at_102 (q := 104) rfl rfl rfl ?_
      refine g_callIK0 C X69 hTK hBL (y := (⟨"com/example/jetway/jetway/FetchException", "<init>", "(Ljava/lang/String;Ljava/lang/Throwable;Lcom/example/jetway/jetway/FetchException$Kind;)V"⟩ : MethodName)) (a := b66) (by decide) rfl (w94 hw) (w42 hw) (w43 hw) (w36 hw) (rm_i3 hw (o1 := b37) (cv := .null) (kk := a_FAILED) O76 W hl (ThS.ext E71 (ThS.keep K54 (List.forall_mem_cons.mpr ⟨Exa.nostat A43, (fun _ z => nomatch z)⟩) (ThS.ext E42 (ThS.wr W34 (ThS.wr W25 (ThS.ext E13 TH)))))) A72 U74 f81 f80 f83 ge75 rfl) (W := 1) (by decide) (by decide) (k' := 5) rfl (n' := 2767) rfl (by decide) (by decide) rfl pd_21 (argsL := [(.ref b37), .null, (.ref a_FAILED)]) rfl (rest := [(.ref b66)]) rfl rfl rfl at_104 (q := 107) rfl ?_
      rintro T84 h85 X86 ⟨K87, E88, F89⟩
      have O90 := O76.keep K87 (allS ge75 all0)
      refine g_astore C X86 at_107 (q := 109) rfl rfl (L' := #[.val (.int p0), .val (.int p1), .val (.int p2), .val (.int p3), .val (.int (0 : Int32)), .val (.ref b7), .val (.ref b37), .val (.ref a_FAILED), .val .null, .val (.ref b66), .unset, .unset, .unset, .unset, .unset]) rfl ?_
      refine g_newU C X86 (w34 hw) (w35 hw) (w36 hw) at_109 (q := 112) rfl (k' := 6) rfl (n' := 2774) rfl (by decide) (by decide) ?_
      intro T92 h93 b91 g95 X94 E96 A97 D98 U99
      have ge100 : n0 ≤ b91 := own_ge O90 g95
      have O101 := O90.ext E96
      have f102 : Fld Z h93 b91 "java/lang/Throwable" "cause" "Ljava/lang/Throwable;" .null := D98 (Or.inl (w57 hw)) (ty := (.object "java/lang/Throwable")) (by decide)
      have f103 : Fld Z h93 b91 "java/lang/Throwable" "stackTrace" "[Ljava/lang/StackTraceElement;" .null := D98 (Or.inl (w60 hw)) (ty := (.array (.object "java/lang/StackTraceElement"))) (by decide)
      have f104 : Fld Z h93 b91 "java/lang/Throwable" "suppressedExceptions" "Ljava/util/List;" .null := D98 (Or.inl (w63 hw)) (ty := (.object "java/util/List")) (by decide)
      have f105 : Fld Z h93 b91 "java/lang/Throwable" "detailMessage" "Ljava/lang/String;" .null := D98 (Or.inl (w87 hw)) (ty := (.object "java/lang/String")) (by decide)
      have f106 : Fld Z h93 b91 "java/lang/Throwable" "backtrace" "Ljava/lang/Object;" .null := D98 (Or.inl (w88 hw)) (ty := (.object "java/lang/Object")) (by decide)
      have f107 : Fld Z h93 b91 "java/lang/Throwable" "depth" "I" (.int (0 : Int32)) := D98 (Or.inl (w89 hw)) (ty := .int) (by decide)
      have f108 : Fld Z h93 b91 "com/example/jetway/jetway/FetchException" "kind" "Lcom/example/jetway/jetway/FetchException$Kind;" .null := D98 (Or.inr (w93 hw)) (ty := (.object "com/example/jetway/jetway/FetchException$Kind")) (by decide)
      refine g_dup C X94 at_112 (q := 113) rfl rfl ?_
      refine g_aload C X94 at_113 (q := 115) rfl rfl rfl ?_
      refine g_callIK0 C X94 hTK hBL (y := (⟨"com/example/jetway/jetway/FetchException", "<init>", "(Ljava/lang/String;)V"⟩ : MethodName)) (a := b91) (by decide) rfl (w37 hw) (w38 hw) (w39 hw) (w36 hw) (rm_i1 hw (o1 := b37) O101 W hl (ThS.ext E96 (ThS.keep K87 (List.forall_mem_cons.mpr ⟨Exa.nostat A72, (fun _ z => nomatch z)⟩) (ThS.ext E71 (ThS.keep K54 (List.forall_mem_cons.mpr ⟨Exa.nostat A43, (fun _ z => nomatch z)⟩) (ThS.ext E42 (ThS.wr W34 (ThS.wr W25 (ThS.ext E13 TH)))))))) A97 U99 f106 f105 f108 ge100) (W := 1) (by decide) (by decide) (k' := 7) rfl (n' := 5526) rfl (by decide) (by decide) rfl pd_29 (argsL := [(.ref b37)]) rfl (rest := [(.ref b91)]) rfl rfl rfl at_115 (q := 118) rfl ?_
      rintro T109 h110 X111 ⟨K112, E113, F114⟩
      have O115 := O101.keep K112 (allS ge100 all0)
      refine g_astore C X111 at_118 (q := 120) rfl rfl (L' := #[.val (.int p0), .val (.int p1), .val (.int p2), .val (.int p3), .val (.int (0 : Int32)), .val (.ref b7), .val (.ref b37), .val (.ref a_FAILED), .val .null, .val (.ref b66), .val (.ref b91), .unset, .unset, .unset, .unset]) rfl ?_
      refine g_newU C X111 (w34 hw) (w35 hw) (w36 hw) at_120 (q := 123) rfl (k' := 8) rfl (n' := 5533) rfl (by decide) (by decide) ?_
      intro T117 h118 b116 g120 X119 E121 A122 D123 U124
      have ge125 : n0 ≤ b116 := own_ge O115 g120
      have O126 := O115.ext E121
      have f127 : Fld Z h118 b116 "java/lang/Throwable" "cause" "Ljava/lang/Throwable;" .null := D123 (Or.inl (w57 hw)) (ty := (.object "java/lang/Throwable")) (by decide)
      have f128 : Fld Z h118 b116 "java/lang/Throwable" "stackTrace" "[Ljava/lang/StackTraceElement;" .null := D123 (Or.inl (w60 hw)) (ty := (.array (.object "java/lang/StackTraceElement"))) (by decide)
      have f129 : Fld Z h118 b116 "java/lang/Throwable" "suppressedExceptions" "Ljava/util/List;" .null := D123 (Or.inl (w63 hw)) (ty := (.object "java/util/List")) (by decide)
      have f130 : Fld Z h118 b116 "java/lang/Throwable" "detailMessage" "Ljava/lang/String;" .null := D123 (Or.inl (w87 hw)) (ty := (.object "java/lang/String")) (by decide)
      have f131 : Fld Z h118 b116 "java/lang/Throwable" "backtrace" "Ljava/lang/Object;" .null := D123 (Or.inl (w88 hw)) (ty := (.object "java/lang/Object")) (by decide)
      have f132 : Fld Z h118 b116 "java/lang/Throwable" "depth" "I" (.int (0 : Int32)) := D123 (Or.inl (w89 hw)) (ty := .int) (by decide)
      have f133 : Fld Z h118 b116 "com/example/jetway/jetway/FetchException" "kind" "Lcom/example/jetway/jetway/FetchException$Kind;" .null := D123 (Or.inr (w93 hw)) (ty := (.object "com/example/jetway/jetway/FetchException$Kind")) (by decide)
      refine g_dup C X119 at_123 (q := 124) rfl rfl ?_
      refine g_aload C X119 at_124 (q := 126) rfl rfl rfl ?_
      refine g_aload C X119 at_126 (q := 128) rfl rfl rfl ?_
      refine g_callIK0 C X119 hTK hBL (y := (⟨"com/example/jetway/jetway/FetchException", "<init>", "(Ljava/lang/String;Ljava/lang/Throwable;)V"⟩ : MethodName)) (a := b116) (by decide) rfl (w95 hw) (w96 hw) (w97 hw) (w36 hw) (rm_i2 hw (o1 := b37) (cv := .null) O126 W hl (ThS.ext E121 (ThS.keep K112 (List.forall_mem_cons.mpr ⟨Exa.nostat A97, (fun _ z => nomatch z)⟩) (ThS.ext E96 (ThS.keep K87 (List.forall_mem_cons.mpr ⟨Exa.nostat A72, (fun _ z => nomatch z)⟩) (ThS.ext E71 (ThS.keep K54 (List.forall_mem_cons.mpr ⟨Exa.nostat A43, (fun _ z => nomatch z)⟩) (ThS.ext E42 (ThS.wr W34 (ThS.wr W25 (ThS.ext E13 TH)))))))))) A122 U124 f131 f130 f133 ge125 rfl) (W := 1) (by decide) (by decide) (k' := 9) rfl (n' := 8285) rfl (by decide) (by decide) rfl pd_4 (argsL := [(.ref b37), .null]) rfl (rest := [(.ref b116)]) rfl rfl rfl at_128 (q := 131) rfl ?_
      rintro T134 h135 X136 ⟨K137, E138, F139⟩
      have O140 := O126.keep K137 (allS ge125 all0)
      refine g_astore C X136 at_131 (q := 133) rfl rfl (L' := #[.val (.int p0), .val (.int p1), .val (.int p2), .val (.int p3), .val (.int (0 : Int32)), .val (.ref b7), .val (.ref b37), .val (.ref a_FAILED), .val .null, .val (.ref b66), .val (.ref b91), .val (.ref b116), .unset, .unset, .unset]) rfl ?_
      refine g_iload C X136 at_133 (q := 135) rfl rfl ?_
      refine g_iconst C X136 at_135 (q := 136) rfl (z := (2 : Int32)) rfl ?_
      refine g_icY C X136 at_136 (by decide) (q := 143) (by decide) (by decide) ?_
      refine g_iconst C X136 at_143 (q := 144) rfl (z := (0 : Int32)) rfl ?_
      refine g_istore C X136 at_144 (q := 146) rfl (L' := #[.val (.int p0), .val (.int p1), .val (.int p2), .val (.int p3), .val (.int (0 : Int32)), .val (.ref b7), .val (.ref b37), .val (.ref a_FAILED), .val .null, .val (.ref b66), .val (.ref b91), .val (.ref b116), .val (.int (0 : Int32)), .unset, .unset]) rfl ?_
      refine g_aload C X136 at_146 (q := 148) rfl rfl rfl ?_
      have f141 := ((((E88.ext E96).keep K112).ext E121).keep K137)
      have f142 := ((((F89.ext E96).keep K112 (ninS (own_ne (Nat.lt_of_lt_of_le A72.lt K87.1) g95) nin0)).ext E121).keep K137 (ninS (own_ne (Nat.lt_of_lt_of_le A72.lt (Nat.le_trans (Nat.le_trans K87.1 E96.1) K112.1)) g120) nin0))
      refine g_callV1 C X136 (y := (⟨"com/example/jetway/jetway/FetchException", "notFound", "()Z"⟩ : MethodName)) (z := (⟨"com/example/jetway/jetway/FetchException", "notFound", "()Z"⟩ : MethodName)) (a := b66) (by decide) (w98 hw) (w99 hw) (w101 hw) (w100 hw) (nf_sel (w101 hw)) f141 (w102 hw) (w36 hw) (rm_notFound_0 hw (o0 := b66) O140 W f141 f142 ge75) (W := 0) (by decide) (by decide) (k' := 9) rfl (n' := 8285) rfl (by decide) (by decide) rfl pd_36 (argsL := []) rfl (rest := []) rfl rfl rfl at_148 (q := 151) rfl ?_
      rintro _ T143 _ X144 ⟨rfl, rfl⟩
      refine g_istore C X144 at_151 (q := 153) rfl (L' := #[.val (.int p0), .val (.int p1), .val (.int p2), .val (.int p3), .val (.int (0 : Int32)), .val (.ref b7), .val (.ref b37), .val (.ref a_FAILED), .val .null, .val (.ref b66), .val (.ref b91), .val (.ref b116), .val (.int (0 : Int32)), .val (.int (0 : Int32)), .unset]) rfl ?_
      refine g_aload C X144 at_153 (q := 155) rfl rfl rfl ?_
      refine g_callV1 C X144 (y := (⟨"com/example/jetway/jetway/FetchException", "unreachable", "()Z"⟩ : MethodName)) (z := (⟨"com/example/jetway/jetway/FetchException", "unreachable", "()Z"⟩ : MethodName)) (a := b66) (by decide) (w105 hw) (w106 hw) (w108 hw) (w107 hw) (nf_sel (w108 hw)) f141 (w109 hw) (w36 hw) (rm_unreachable_0 hw (o0 := b66) O140 W f141 f142 ge75) (W := 0) (by decide) (by decide) (k' := 9) rfl (n' := 8285) rfl (by decide) (by decide) rfl pd_36 (argsL := []) rfl (rest := []) rfl rfl rfl at_155 (q := 158) rfl ?_
      rintro _ T145 _ X146 ⟨rfl, rfl⟩
      refine g_istore C X146 at_158 (q := 160) rfl (L' := #[.val (.int p0), .val (.int p1), .val (.int p2), .val (.int p3), .val (.int (0 : Int32)), .val (.ref b7), .val (.ref b37), .val (.ref a_FAILED), .val .null, .val (.ref b66), .val (.ref b91), .val (.ref b116), .val (.int (0 : Int32)), .val (.int (0 : Int32)), .val (.int (0 : Int32))]) rfl ?_
      refine g_iload C X146 at_160 (q := 162) rfl rfl ?_
      refine g_iload C X146 at_162 (q := 164) rfl rfl ?_
      refine g_icN C X146 at_164 (q := 167) rfl (by decide) ?_
      refine g_aload C X146 at_167 (q := 169) rfl rfl rfl ?_
      have f147 := ((E113.ext E121).keep K137)
      have f148 := ((F114.ext E121).keep K137 (ninS (own_ne (Nat.lt_of_lt_of_le A97.lt K112.1) g120) nin0))
      refine g_callV1 C X146 (y := (⟨"com/example/jetway/jetway/FetchException", "notFound", "()Z"⟩ : MethodName)) (z := (⟨"com/example/jetway/jetway/FetchException", "notFound", "()Z"⟩ : MethodName)) (a := b91) (by decide) (w98 hw) (w99 hw) (w101 hw) (w100 hw) (nf_sel (w101 hw)) f147 (w102 hw) (w36 hw) (rm_notFound_0 hw (o0 := b91) O140 W f147 f148 ge100) (W := 0) (by decide) (by decide) (k' := 9) rfl (n' := 8285) rfl (by decide) (by decide) rfl pd_36 (argsL := []) rfl (rest := []) rfl rfl rfl at_169 (q := 172) rfl ?_
      rintro _ T149 _ X150 ⟨rfl, rfl⟩
      refine g_ifN C X150 at_172 (q := 175) rfl (by decide) ?_
      refine g_aload C X150 at_175 (q := 177) rfl rfl rfl ?_
      refine g_callV1 C X150 (y := (⟨"com/example/jetway/jetway/FetchException", "notFound", "()Z"⟩ : MethodName)) (z := (⟨"com/example/jetway/jetway/FetchException", "notFound", "()Z"⟩ : MethodName)) (a := b116) (by decide) (w98 hw) (w99 hw) (w101 hw) (w100 hw) (nf_sel (w101 hw)) E138 (w102 hw) (w36 hw) (rm_notFound_0 hw (o0 := b116) O140 W E138 F139 ge125) (W := 0) (by decide) (by decide) (k' := 9) rfl (n' := 8285) rfl (by decide) (by decide) rfl pd_36 (argsL := []) rfl (rest := []) rfl rfl rfl at_177 (q := 180) rfl ?_
      rintro _ T151 _ X152 ⟨rfl, rfl⟩
      refine g_ifN C X152 at_180 (q := 183) rfl (by decide) ?_
      refine g_iload C X152 at_183 (q := 185) rfl rfl ?_
      refine g_ifY C X152 at_185 (by decide) (q := 193) (by decide) (by decide) ?_
      refine g_iconst C X152 at_193 (q := 194) rfl (z := (1 : Int32)) rfl ?_
      refine g_goto C X152 at_194 (by decide) (q := 198) (by decide) ?_
      exact g_retN C X152 (Or.inl rfl) (z' := 1) (by decide) at_198 (by decide) (by decide) ⟨_, rfl, rfl, trivial⟩
    · refine g_ifN C X60 at_80 (q := 83) rfl (feq hc64).1 ?_
      have hr153 : 1 ≤ v61.toInt := own_f5 hc64 hl62 (by decide)
      obtain rfl : v61 = (1 : Int32) := own_f0 hr153 hh63 (by decide)
      refine g_newU C X60 (w34 hw) (w35 hw) (w36 hw) at_83 (q := 86) rfl (k' := 4) rfl (n' := 15) rfl (by decide) (by decide) ?_
      intro T155 h156 b154 g158 X157 E159 A160 D161 U162
      have ge163 : n0 ≤ b154 := own_ge O56 g158
      have O164 := O56.ext E159
      have f165 : Fld Z h156 b154 "java/lang/Throwable" "cause" "Ljava/lang/Throwable;" .null := D161 (Or.inl (w57 hw)) (ty := (.object "java/lang/Throwable")) (by decide)
      have f166 : Fld Z h156 b154 "java/lang/Throwable" "stackTrace" "[Ljava/lang/StackTraceElement;" .null := D161 (Or.inl (w60 hw)) (ty := (.array (.object "java/lang/StackTraceElement"))) (by decide)
      have f167 : Fld Z h156 b154 "java/lang/Throwable" "suppressedExceptions" "Ljava/util/List;" .null := D161 (Or.inl (w63 hw)) (ty := (.object "java/util/List")) (by decide)
      have f168 : Fld Z h156 b154 "java/lang/Throwable" "detailMessage" "Ljava/lang/String;" .null := D161 (Or.inl (w87 hw)) (ty := (.object "java/lang/String")) (by decide)
      have f169 : Fld Z h156 b154 "java/lang/Throwable" "backtrace" "Ljava/lang/Object;" .null := D161 (Or.inl (w88 hw)) (ty := (.object "java/lang/Object")) (by decide)
      have f170 : Fld Z h156 b154 "java/lang/Throwable" "depth" "I" (.int (0 : Int32)) := D161 (Or.inl (w89 hw)) (ty := .int) (by decide)
      have f171 : Fld Z h156 b154 "com/example/jetway/jetway/FetchException" "kind" "Lcom/example/jetway/jetway/FetchException$Kind;" .null := D161 (Or.inr (w93 hw)) (ty := (.object "com/example/jetway/jetway/FetchException$Kind")) (by decide)
      refine g_dup C X157 at_86 (q := 87) rfl rfl ?_
      refine g_aload C X157 at_87 (q := 89) rfl rfl rfl ?_
      refine g_callIK0 C X157 hTK hBL (y := (⟨"com/example/jetway/jetway/FetchException", "<init>", "(Ljava/lang/String;)V"⟩ : MethodName)) (a := b154) (by decide) rfl (w37 hw) (w38 hw) (w39 hw) (w36 hw) (rm_i1 hw (o1 := b37) O164 W hl (ThS.ext E159 (ThS.keep K54 (List.forall_mem_cons.mpr ⟨Exa.nostat A43, (fun _ z => nomatch z)⟩) (ThS.ext E42 (ThS.wr W34 (ThS.wr W25 (ThS.ext E13 TH)))))) A160 U162 f169 f168 f171 ge163) (W := 1) (by decide) (by decide) (k' := 5) rfl (n' := 2767) rfl (by decide) (by decide) rfl pd_29 (argsL := [(.ref b37)]) rfl (rest := [(.ref b154)]) rfl rfl rfl at_89 (q := 92) rfl ?_
      rintro T172 h173 X174 ⟨K175, E176, F177⟩
      have O178 := O164.keep K175 (allS ge163 all0)
      refine g_astore C X174 at_92 (q := 94) rfl rfl (L' := #[.val (.int p0), .val (.int p1), .val (.int p2), .val (.int p3), .val (.int (0 : Int32)), .val (.ref b7), .val (.ref b37), .val (.ref a_FAILED), .val (.ref b154), .unset, .unset, .unset, .unset, .unset, .unset]) rfl ?_
      refine g_newU C X174 (w34 hw) (w35 hw) (w36 hw) at_94 (q := 97) rfl (k' := 6) rfl (n' := 2774) rfl (by decide) (by decide) ?_
      intro T180 h181 b179 g183 X182 E184 A185 D186 U187
      have ge188 : n0 ≤ b179 := own_ge O178 g183
      have O189 := O178.ext E184
      have f190 : Fld Z h181 b179 "java/lang/Throwable" "cause" "Ljava/lang/Throwable;" .null := D186 (Or.inl (w57 hw)) (ty := (.object "java/lang/Throwable")) (by decide)
      have f191 : Fld Z h181 b179 "java/lang/Throwable" "stackTrace" "[Ljava/lang/StackTraceElement;" .null := D186 (Or.inl (w60 hw)) (ty := (.array (.object "java/lang/StackTraceElement"))) (by decide)
      have f192 : Fld Z h181 b179 "java/lang/Throwable" "suppressedExceptions" "Ljava/util/List;" .null := D186 (Or.inl (w63 hw)) (ty := (.object "java/util/List")) (by decide)
      have f193 : Fld Z h181 b179 "java/lang/Throwable" "detailMessage" "Ljava/lang/String;" .null := D186 (Or.inl (w87 hw)) (ty := (.object "java/lang/String")) (by decide)
      have f194 : Fld Z h181 b179 "java/lang/Throwable" "backtrace" "Ljava/lang/Object;" .null := D186 (Or.inl (w88 hw)) (ty := (.object "java/lang/Object")) (by decide)
      have f195 : Fld Z h181 b179 "java/lang/Throwable" "depth" "I" (.int (0 : Int32)) := D186 (Or.inl (w89 hw)) (ty := .int) (by decide)
      have f196 : Fld Z h181 b179 "com/example/jetway/jetway/FetchException" "kind" "Lcom/example/jetway/jetway/FetchException$Kind;" .null := D186 (Or.inr (w93 hw)) (ty := (.object "com/example/jetway/jetway/FetchException$Kind")) (by decide)
      refine g_dup C X182 at_97 (q := 98) rfl rfl ?_
      refine g_aload C X182 at_98 (q := 100) rfl rfl rfl ?_
      refine g_aload C X182 at_100 (q := 102) rfl rfl rfl ?_
      refine g_aload C X182 at_102 (q := 104) rfl rfl rfl ?_
      refine g_callIK0 C X182 hTK hBL (y := (⟨"com/example/jetway/jetway/FetchException", "<init>", "(Ljava/lang/String;Ljava/lang/Throwable;Lcom/example/jetway/jetway/FetchException$Kind;)V"⟩ : MethodName)) (a := b179) (by decide) rfl (w94 hw) (w42 hw) (w43 hw) (w36 hw) (rm_i3 hw (o1 := b37) (cv := (.ref b154)) (kk := a_FAILED) O189 W hl (ThS.ext E184 (ThS.keep K175 (List.forall_mem_cons.mpr ⟨Exa.nostat A160, (fun _ z => nomatch z)⟩) (ThS.ext E159 (ThS.keep K54 (List.forall_mem_cons.mpr ⟨Exa.nostat A43, (fun _ z => nomatch z)⟩) (ThS.ext E42 (ThS.wr W34 (ThS.wr W25 (ThS.ext E13 TH)))))))) A185 U187 f194 f193 f196 ge188 rfl) (W := 1) (by decide) (by decide) (k' := 7) rfl (n' := 5526) rfl (by decide) (by decide) rfl pd_21 (argsL := [(.ref b37), (.ref b154), (.ref a_FAILED)]) rfl (rest := [(.ref b179)]) rfl rfl rfl at_104 (q := 107) rfl ?_
      rintro T197 h198 X199 ⟨K200, E201, F202⟩
      have O203 := O189.keep K200 (allS ge188 all0)
      refine g_astore C X199 at_107 (q := 109) rfl rfl (L' := #[.val (.int p0), .val (.int p1), .val (.int p2), .val (.int p3), .val (.int (0 : Int32)), .val (.ref b7), .val (.ref b37), .val (.ref a_FAILED), .val (.ref b154), .val (.ref b179), .unset, .unset, .unset, .unset, .unset]) rfl ?_
      refine g_newU C X199 (w34 hw) (w35 hw) (w36 hw) at_109 (q := 112) rfl (k' := 8) rfl (n' := 5533) rfl (by decide) (by decide) ?_
      intro T205 h206 b204 g208 X207 E209 A210 D211 U212
      have ge213 : n0 ≤ b204 := own_ge O203 g208
      have O214 := O203.ext E209
      have f215 : Fld Z h206 b204 "java/lang/Throwable" "cause" "Ljava/lang/Throwable;" .null := D211 (Or.inl (w57 hw)) (ty := (.object "java/lang/Throwable")) (by decide)
      have f216 : Fld Z h206 b204 "java/lang/Throwable" "stackTrace" "[Ljava/lang/StackTraceElement;" .null := D211 (Or.inl (w60 hw)) (ty := (.array (.object "java/lang/StackTraceElement"))) (by decide)
      have f217 : Fld Z h206 b204 "java/lang/Throwable" "suppressedExceptions" "Ljava/util/List;" .null := D211 (Or.inl (w63 hw)) (ty := (.object "java/util/List")) (by decide)
      have f218 : Fld Z h206 b204 "java/lang/Throwable" "detailMessage" "Ljava/lang/String;" .null := D211 (Or.inl (w87 hw)) (ty := (.object "java/lang/String")) (by decide)
      have f219 : Fld Z h206 b204 "java/lang/Throwable" "backtrace" "Ljava/lang/Object;" .null := D211 (Or.inl (w88 hw)) (ty := (.object "java/lang/Object")) (by decide)
      have f220 : Fld Z h206 b204 "java/lang/Throwable" "depth" "I" (.int (0 : Int32)) := D211 (Or.inl (w89 hw)) (ty := .int) (by decide)
      have f221 : Fld Z h206 b204 "com/example/jetway/jetway/FetchException" "kind" "Lcom/example/jetway/jetway/FetchException$Kind;" .null := D211 (Or.inr (w93 hw)) (ty := (.object "com/example/jetway/jetway/FetchException$Kind")) (by decide)
      refine g_dup C X207 at_112 (q := 113) rfl rfl ?_
      refine g_aload C X207 at_113 (q := 115) rfl rfl rfl ?_
      refine g_callIK0 C X207 hTK hBL (y := (⟨"com/example/jetway/jetway/FetchException", "<init>", "(Ljava/lang/String;)V"⟩ : MethodName)) (a := b204) (by decide) rfl (w37 hw) (w38 hw) (w39 hw) (w36 hw) (rm_i1 hw (o1 := b37) O214 W hl (ThS.ext E209 (ThS.keep K200 (List.forall_mem_cons.mpr ⟨Exa.nostat A185, (fun _ z => nomatch z)⟩) (ThS.ext E184 (ThS.keep K175 (List.forall_mem_cons.mpr ⟨Exa.nostat A160, (fun _ z => nomatch z)⟩) (ThS.ext E159 (ThS.keep K54 (List.forall_mem_cons.mpr ⟨Exa.nostat A43, (fun _ z => nomatch z)⟩) (ThS.ext E42 (ThS.wr W34 (ThS.wr W25 (ThS.ext E13 TH)))))))))) A210 U212 f219 f218 f221 ge213) (W := 1) (by decide) (by decide) (k' := 9) rfl (n' := 8285) rfl (by decide) (by decide) rfl pd_29 (argsL := [(.ref b37)]) rfl (rest := [(.ref b204)]) rfl rfl rfl at_115 (q := 118) rfl ?_
      rintro T222 h223 X224 ⟨K225, E226, F227⟩
      have O228 := O214.keep K225 (allS ge213 all0)
      refine g_astore C X224 at_118 (q := 120) rfl rfl (L' := #[.val (.int p0), .val (.int p1), .val (.int p2), .val (.int p3), .val (.int (0 : Int32)), .val (.ref b7), .val (.ref b37), .val (.ref a_FAILED), .val (.ref b154), .val (.ref b179), .val (.ref b204), .unset, .unset, .unset, .unset]) rfl ?_
      refine g_newU C X224 (w34 hw) (w35 hw) (w36 hw) at_120 (q := 123) rfl (k' := 10) rfl (n' := 8292) rfl (by decide) (by decide) ?_
      intro T230 h231 b229 g233 X232 E234 A235 D236 U237
      have ge238 : n0 ≤ b229 := own_ge O228 g233
      have O239 := O228.ext E234
      have f240 : Fld Z h231 b229 "java/lang/Throwable" "cause" "Ljava/lang/Throwable;" .null := D236 (Or.inl (w57 hw)) (ty := (.object "java/lang/Throwable")) (by decide)
      have f241 : Fld Z h231 b229 "java/lang/Throwable" "stackTrace" "[Ljava/lang/StackTraceElement;" .null := D236 (Or.inl (w60 hw)) (ty := (.array (.object "java/lang/StackTraceElement"))) (by decide)
      have f242 : Fld Z h231 b229 "java/lang/Throwable" "suppressedExceptions" "Ljava/util/List;" .null := D236 (Or.inl (w63 hw)) (ty := (.object "java/util/List")) (by decide)
      have f243 : Fld Z h231 b229 "java/lang/Throwable" "detailMessage" "Ljava/lang/String;" .null := D236 (Or.inl (w87 hw)) (ty := (.object "java/lang/String")) (by decide)
      have f244 : Fld Z h231 b229 "java/lang/Throwable" "backtrace" "Ljava/lang/Object;" .null := D236 (Or.inl (w88 hw)) (ty := (.object "java/lang/Object")) (by decide)
      have f245 : Fld Z h231 b229 "java/lang/Throwable" "depth" "I" (.int (0 : Int32)) := D236 (Or.inl (w89 hw)) (ty := .int) (by decide)
      have f246 : Fld Z h231 b229 "com/example/jetway/jetway/FetchException" "kind" "Lcom/example/jetway/jetway/FetchException$Kind;" .null := D236 (Or.inr (w93 hw)) (ty := (.object "com/example/jetway/jetway/FetchException$Kind")) (by decide)
      refine g_dup C X232 at_123 (q := 124) rfl rfl ?_
      refine g_aload C X232 at_124 (q := 126) rfl rfl rfl ?_
      refine g_aload C X232 at_126 (q := 128) rfl rfl rfl ?_
      refine g_callIK0 C X232 hTK hBL (y := (⟨"com/example/jetway/jetway/FetchException", "<init>", "(Ljava/lang/String;Ljava/lang/Throwable;)V"⟩ : MethodName)) (a := b229) (by decide) rfl (w95 hw) (w96 hw) (w97 hw) (w36 hw) (rm_i2 hw (o1 := b37) (cv := (.ref b154)) O239 W hl (ThS.ext E234 (ThS.keep K225 (List.forall_mem_cons.mpr ⟨Exa.nostat A210, (fun _ z => nomatch z)⟩) (ThS.ext E209 (ThS.keep K200 (List.forall_mem_cons.mpr ⟨Exa.nostat A185, (fun _ z => nomatch z)⟩) (ThS.ext E184 (ThS.keep K175 (List.forall_mem_cons.mpr ⟨Exa.nostat A160, (fun _ z => nomatch z)⟩) (ThS.ext E159 (ThS.keep K54 (List.forall_mem_cons.mpr ⟨Exa.nostat A43, (fun _ z => nomatch z)⟩) (ThS.ext E42 (ThS.wr W34 (ThS.wr W25 (ThS.ext E13 TH)))))))))))) A235 U237 f244 f243 f246 ge238 rfl) (W := 1) (by decide) (by decide) (k' := 11) rfl (n' := 11044) rfl (by decide) (by decide) rfl pd_4 (argsL := [(.ref b37), (.ref b154)]) rfl (rest := [(.ref b229)]) rfl rfl rfl at_128 (q := 131) rfl ?_
      rintro T247 h248 X249 ⟨K250, E251, F252⟩
      have O253 := O239.keep K250 (allS ge238 all0)
      refine g_astore C X249 at_131 (q := 133) rfl rfl (L' := #[.val (.int p0), .val (.int p1), .val (.int p2), .val (.int p3), .val (.int (0 : Int32)), .val (.ref b7), .val (.ref b37), .val (.ref a_FAILED), .val (.ref b154), .val (.ref b179), .val (.ref b204), .val (.ref b229), .unset, .unset, .unset]) rfl ?_
      refine g_iload C X249 at_133 (q := 135) rfl rfl ?_
      refine g_iconst C X249 at_135 (q := 136) rfl (z := (2 : Int32)) rfl ?_
      refine g_icY C X249 at_136 (by decide) (q := 143) (by decide) (by decide) ?_
      refine g_iconst C X249 at_143 (q := 144) rfl (z := (0 : Int32)) rfl ?_
      refine g_istore C X249 at_144 (q := 146) rfl (L' := #[.val (.int p0), .val (.int p1), .val (.int p2), .val (.int p3), .val (.int (0 : Int32)), .val (.ref b7), .val (.ref b37), .val (.ref a_FAILED), .val (.ref b154), .val (.ref b179), .val (.ref b204), .val (.ref b229), .val (.int (0 : Int32)), .unset, .unset]) rfl ?_
      refine g_aload C X249 at_146 (q := 148) rfl rfl rfl ?_
      have f254 := ((((E201.ext E209).keep K225).ext E234).keep K250)
      have f255 := ((((F202.ext E209).keep K225 (ninS (own_ne (Nat.lt_of_lt_of_le A185.lt K200.1) g208) nin0)).ext E234).keep K250 (ninS (own_ne (Nat.lt_of_lt_of_le A185.lt (Nat.le_trans (Nat.le_trans K200.1 E209.1) K225.1)) g233) nin0))
      refine g_callV1 C X249 (y := (⟨"com/example/jetway/jetway/FetchException", "notFound", "()Z"⟩ : MethodName)) (z := (⟨"com/example/jetway/jetway/FetchException", "notFound", "()Z"⟩ : MethodName)) (a := b179) (by decide) (w98 hw) (w99 hw) (w101 hw) (w100 hw) (nf_sel (w101 hw)) f254 (w102 hw) (w36 hw) (rm_notFound_0 hw (o0 := b179) O253 W f254 f255 ge188) (W := 0) (by decide) (by decide) (k' := 11) rfl (n' := 11044) rfl (by decide) (by decide) rfl pd_36 (argsL := []) rfl (rest := []) rfl rfl rfl at_148 (q := 151) rfl ?_
      rintro _ T256 _ X257 ⟨rfl, rfl⟩
      refine g_istore C X257 at_151 (q := 153) rfl (L' := #[.val (.int p0), .val (.int p1), .val (.int p2), .val (.int p3), .val (.int (0 : Int32)), .val (.ref b7), .val (.ref b37), .val (.ref a_FAILED), .val (.ref b154), .val (.ref b179), .val (.ref b204), .val (.ref b229), .val (.int (0 : Int32)), .val (.int (0 : Int32)), .unset]) rfl ?_
      refine g_aload C X257 at_153 (q := 155) rfl rfl rfl ?_
      refine g_callV1 C X257 (y := (⟨"com/example/jetway/jetway/FetchException", "unreachable", "()Z"⟩ : MethodName)) (z := (⟨"com/example/jetway/jetway/FetchException", "unreachable", "()Z"⟩ : MethodName)) (a := b179) (by decide) (w105 hw) (w106 hw) (w108 hw) (w107 hw) (nf_sel (w108 hw)) f254 (w109 hw) (w36 hw) (rm_unreachable_0 hw (o0 := b179) O253 W f254 f255 ge188) (W := 0) (by decide) (by decide) (k' := 11) rfl (n' := 11044) rfl (by decide) (by decide) rfl pd_36 (argsL := []) rfl (rest := []) rfl rfl rfl at_155 (q := 158) rfl ?_
      rintro _ T258 _ X259 ⟨rfl, rfl⟩
      refine g_istore C X259 at_158 (q := 160) rfl (L' := #[.val (.int p0), .val (.int p1), .val (.int p2), .val (.int p3), .val (.int (0 : Int32)), .val (.ref b7), .val (.ref b37), .val (.ref a_FAILED), .val (.ref b154), .val (.ref b179), .val (.ref b204), .val (.ref b229), .val (.int (0 : Int32)), .val (.int (0 : Int32)), .val (.int (0 : Int32))]) rfl ?_
      refine g_iload C X259 at_160 (q := 162) rfl rfl ?_
      refine g_iload C X259 at_162 (q := 164) rfl rfl ?_
      refine g_icN C X259 at_164 (q := 167) rfl (by decide) ?_
      refine g_aload C X259 at_167 (q := 169) rfl rfl rfl ?_
      have f260 := ((E226.ext E234).keep K250)
      have f261 := ((F227.ext E234).keep K250 (ninS (own_ne (Nat.lt_of_lt_of_le A210.lt K225.1) g233) nin0))
      refine g_callV1 C X259 (y := (⟨"com/example/jetway/jetway/FetchException", "notFound", "()Z"⟩ : MethodName)) (z := (⟨"com/example/jetway/jetway/FetchException", "notFound", "()Z"⟩ : MethodName)) (a := b204) (by decide) (w98 hw) (w99 hw) (w101 hw) (w100 hw) (nf_sel (w101 hw)) f260 (w102 hw) (w36 hw) (rm_notFound_0 hw (o0 := b204) O253 W f260 f261 ge213) (W := 0) (by decide) (by decide) (k' := 11) rfl (n' := 11044) rfl (by decide) (by decide) rfl pd_36 (argsL := []) rfl (rest := []) rfl rfl rfl at_169 (q := 172) rfl ?_
      rintro _ T262 _ X263 ⟨rfl, rfl⟩
      refine g_ifN C X263 at_172 (q := 175) rfl (by decide) ?_
      refine g_aload C X263 at_175 (q := 177) rfl rfl rfl ?_
      refine g_callV1 C X263 (y := (⟨"com/example/jetway/jetway/FetchException", "notFound", "()Z"⟩ : MethodName)) (z := (⟨"com/example/jetway/jetway/FetchException", "notFound", "()Z"⟩ : MethodName)) (a := b229) (by decide) (w98 hw) (w99 hw) (w101 hw) (w100 hw) (nf_sel (w101 hw)) E251 (w102 hw) (w36 hw) (rm_notFound_0 hw (o0 := b229) O253 W E251 F252 ge238) (W := 0) (by decide) (by decide) (k' := 11) rfl (n' := 11044) rfl (by decide) (by decide) rfl pd_36 (argsL := []) rfl (rest := []) rfl rfl rfl at_177 (q := 180) rfl ?_
      rintro _ T264 _ X265 ⟨rfl, rfl⟩
      refine g_ifN C X265 at_180 (q := 183) rfl (by decide) ?_
      refine g_iload C X265 at_183 (q := 185) rfl rfl ?_
      refine g_ifY C X265 at_185 (by decide) (q := 193) (by decide) (by decide) ?_
      refine g_iconst C X265 at_193 (q := 194) rfl (z := (1 : Int32)) rfl ?_
      refine g_goto C X265 at_194 (by decide) (q := 198) (by decide) ?_
      exact g_retN C X265 (Or.inl rfl) (z' := 1) (by decide) at_198 (by decide) (by decide) ⟨_, rfl, rfl, trivial⟩
  · refine g_ifY C X53 at_44 (by decide) (q := 55) (by decide) (feq hc57).2 ?_
    have hr266 : 1 ≤ v4.toInt := own_f5 hc57 hl5 (by decide)
    refine g_iload C X53 at_55 (q := 57) rfl rfl ?_
    refine g_iconst C X53 at_57 (q := 58) rfl (z := (1 : Int32)) rfl ?_
    by_cases hc267 : v4 = (1 : Int32)
    · refine g_icN C X53 at_58 (q := 61) rfl (teq hc267).2 ?_
      obtain rfl : v4 = (1 : Int32) := hc267
      refine g_getS C X53 (host := "") (Or.inl (w112 hw)) Via.refl (W.2.2.2.2.2.2.1.ext O56.2) at_61 (q := 64) rfl ?_
      intro T269 X270
      refine g_astore C X270 at_64 (q := 66) rfl rfl (L' := #[.val (.int p0), .val (.int p1), .val (.int p2), .val (.int p3), .val (.int (1 : Int32)), .val (.ref b7), .val (.ref b37), .val (.ref a_UNREACHABLE), .unset, .unset, .unset, .unset, .unset, .unset, .unset]) rfl ?_
      refine g_goto C X270 at_66 (by decide) (q := 74) (by decide) ?_
      refine g_aconstNull C X270 at_74 (q := 75) rfl ?_
      refine g_astore C X270 at_75 (q := 77) rfl rfl (L' := #[.val (.int p0), .val (.int p1), .val (.int p2), .val (.int p3), .val (.int (1 : Int32)), .val (.ref b7), .val (.ref b37), .val (.ref a_UNREACHABLE), .val .null, .unset, .unset, .unset, .unset, .unset, .unset]) rfl ?_
      refine g_iloadN C X270 at_77 (q := 78) rfl rfl ?_
      refine g_iconst C X270 at_78 (q := 79) rfl (z := (1 : Int32)) rfl ?_
      obtain ⟨v271, ev271⟩ : ∃ z, (p3 &&& (1 : Int32)) = z := ⟨_, rfl⟩
      have hl272 : 0 ≤ v271.toInt := by rw [← ev271]; exact (c_and p3 (1 : Int32) (by decide)).1
      have hh273 : v271.toInt ≤ 1 := by rw [← ev271]; exact (c_and p3 (1 : Int32) (by decide)).2
      refine g_iand C X270 at_79 (q := 80) rfl (z := v271) ev271 ?_
      by_cases hc274 : v271 = (0 : Int32)
      · refine g_ifY C X270 at_80 (by decide) (q := 94) (by decide) (teq hc274).1 ?_
        obtain rfl : v271 = (0 : Int32) := hc274
        refine g_newU C X270 (w34 hw) (w35 hw) (w36 hw) at_94 (q := 97) rfl (k' := 4) rfl (n' := 15) rfl (by decide) (by decide) ?_
        intro T277 h278 b276 g280 X279 E281 A282 D283 U284
        have ge285 : n0 ≤ b276 := own_ge O56 g280
        have O286 := O56.ext E281
        have f287 : Fld Z h278 b276 "java/lang/Throwable" "cause" "Ljava/lang/Throwable;" .null := D283 (Or.inl (w57 hw)) (ty := (.object "java/lang/Throwable")) (by decide)
        have f288 : Fld Z h278 b276 "java/lang/Throwable" "stackTrace" "[Ljava/lang/StackTraceElement;" .null := D283 (Or.inl (w60 hw)) (ty := (.array (.object "java/lang/StackTraceElement"))) (by decide)
        have f289 : Fld Z h278 b276 "java/lang/Throwable" "suppressedExceptions" "Ljava/util/List;" .null := D283 (Or.inl (w63 hw)) (ty := (.object "java/util/List")) (by decide)
        have f290 : Fld Z h278 b276 "java/lang/Throwable" "detailMessage" "Ljava/lang/String;" .null := D283 (Or.inl (w87 hw)) (ty := (.object "java/lang/String")) (by decide)
        have f291 : Fld Z h278 b276 "java/lang/Throwable" "backtrace" "Ljava/lang/Object;" .null := D283 (Or.inl (w88 hw)) (ty := (.object "java/lang/Object")) (by decide)
        have f292 : Fld Z h278 b276 "java/lang/Throwable" "depth" "I" (.int (0 : Int32)) := D283 (Or.inl (w89 hw)) (ty := .int) (by decide)
        have f293 : Fld Z h278 b276 "com/example/jetway/jetway/FetchException" "kind" "Lcom/example/jetway/jetway/FetchException$Kind;" .null := D283 (Or.inr (w93 hw)) (ty := (.object "com/example/jetway/jetway/FetchException$Kind")) (by decide)
        refine g_dup C X279 at_97 (q := 98) rfl rfl ?_
        refine g_aload C X279 at_98 (q := 100) rfl rfl rfl ?_
        refine g_aload C X279 at_100 (q := 102) rfl rfl rfl ?_
        refine g_aload C X279 at_102 (q := 104) rfl rfl rfl ?_
        refine g_callIK0 C X279 hTK hBL (y := (⟨"com/example/jetway/jetway/FetchException", "<init>", "(Ljava/lang/String;Ljava/lang/Throwable;Lcom/example/jetway/jetway/FetchException$Kind;)V"⟩ : MethodName)) (a := b276) (by decide) rfl (w94 hw) (w42 hw) (w43 hw) (w36 hw) (rm_i3 hw (o1 := b37) (cv := .null) (kk := a_UNREACHABLE) O286 W hl (ThS.ext E281 (ThS.keep K54 (List.forall_mem_cons.mpr ⟨Exa.nostat A43, (fun _ z => nomatch z)⟩) (ThS.ext E42 (ThS.wr W34 (ThS.wr W25 (ThS.ext E13 TH)))))) A282 U284 f291 f290 f293 ge285 rfl) (W := 1) (by decide) (by decide) (k' := 5) rfl (n' := 2767) rfl (by decide) (by decide) rfl pd_21 (argsL := [(.ref b37), .null, (.ref a_UNREACHABLE)]) rfl (rest := [(.ref b276)]) rfl rfl rfl at_104 (q := 107) rfl ?_
        rintro T294 h295 X296 ⟨K297, E298, F299⟩
        have O300 := O286.keep K297 (allS ge285 all0)
        refine g_astore C X296 at_107 (q := 109) rfl rfl (L' := #[.val (.int p0), .val (.int p1), .val (.int p2), .val (.int p3), .val (.int (1 : Int32)), .val (.ref b7), .val (.ref b37), .val (.ref a_UNREACHABLE), .val .null, .val (.ref b276), .unset, .unset, .unset, .unset, .unset]) rfl ?_
        refine g_newU C X296 (w34 hw) (w35 hw) (w36 hw) at_109 (q := 112) rfl (k' := 6) rfl (n' := 2774) rfl (by decide) (by decide) ?_
        intro T302 h303 b301 g305 X304 E306 A307 D308 U309
        have ge310 : n0 ≤ b301 := own_ge O300 g305
        have O311 := O300.ext E306
        have f312 : Fld Z h303 b301 "java/lang/Throwable" "cause" "Ljava/lang/Throwable;" .null := D308 (Or.inl (w57 hw)) (ty := (.object "java/lang/Throwable")) (by decide)
        have f313 : Fld Z h303 b301 "java/lang/Throwable" "stackTrace" "[Ljava/lang/StackTraceElement;" .null := D308 (Or.inl (w60 hw)) (ty := (.array (.object "java/lang/StackTraceElement"))) (by decide)
        have f314 : Fld Z h303 b301 "java/lang/Throwable" "suppressedExceptions" "Ljava/util/List;" .null := D308 (Or.inl (w63 hw)) (ty := (.object "java/util/List")) (by decide)
        have f315 : Fld Z h303 b301 "java/lang/Throwable" "detailMessage" "Ljava/lang/String;" .null := D308 (Or.inl (w87 hw)) (ty := (.object "java/lang/String")) (by decide)
        have f316 : Fld Z h303 b301 "java/lang/Throwable" "backtrace" "Ljava/lang/Object;" .null := D308 (Or.inl (w88 hw)) (ty := (.object "java/lang/Object")) (by decide)
        have f317 : Fld Z h303 b301 "java/lang/Throwable" "depth" "I" (.int (0 : Int32)) := D308 (Or.inl (w89 hw)) (ty := .int) (by decide)
        have f318 : Fld Z h303 b301 "com/example/jetway/jetway/FetchException" "kind" "Lcom/example/jetway/jetway/FetchException$Kind;" .null := D308 (Or.inr (w93 hw)) (ty := (.object "com/example/jetway/jetway/FetchException$Kind")) (by decide)
        refine g_dup C X304 at_112 (q := 113) rfl rfl ?_
        refine g_aload C X304 at_113 (q := 115) rfl rfl rfl ?_
        refine g_callIK0 C X304 hTK hBL (y := (⟨"com/example/jetway/jetway/FetchException", "<init>", "(Ljava/lang/String;)V"⟩ : MethodName)) (a := b301) (by decide) rfl (w37 hw) (w38 hw) (w39 hw) (w36 hw) (rm_i1 hw (o1 := b37) O311 W hl (ThS.ext E306 (ThS.keep K297 (List.forall_mem_cons.mpr ⟨Exa.nostat A282, (fun _ z => nomatch z)⟩) (ThS.ext E281 (ThS.keep K54 (List.forall_mem_cons.mpr ⟨Exa.nostat A43, (fun _ z => nomatch z)⟩) (ThS.ext E42 (ThS.wr W34 (ThS.wr W25 (ThS.ext E13 TH)))))))) A307 U309 f316 f315 f318 ge310) (W := 1) (by decide) (by decide) (k' := 7) rfl (n' := 5526) rfl (by decide) (by decide) rfl pd_29 (argsL := [(.ref b37)]) rfl (rest := [(.ref b301)]) rfl rfl rfl at_115 (q := 118) rfl ?_
        rintro T319 h320 X321 ⟨K322, E323, F324⟩
        have O325 := O311.keep K322 (allS ge310 all0)
        refine g_astore C X321 at_118 (q := 120) rfl rfl (L' := #[.val (.int p0), .val (.int p1), .val (.int p2), .val (.int p3), .val (.int (1 : Int32)), .val (.ref b7), .val (.ref b37), .val (.ref a_UNREACHABLE), .val .null, .val (.ref b276), .val (.ref b301), .unset, .unset, .unset, .unset]) rfl ?_
        refine g_newU C X321 (w34 hw) (w35 hw) (w36 hw) at_120 (q := 123) rfl (k' := 8) rfl (n' := 5533) rfl (by decide) (by decide) ?_
        intro T327 h328 b326 g330 X329 E331 A332 D333 U334
        have ge335 : n0 ≤ b326 := own_ge O325 g330
        have O336 := O325.ext E331
        have f337 : Fld Z h328 b326 "java/lang/Throwable" "cause" "Ljava/lang/Throwable;" .null := D333 (Or.inl (w57 hw)) (ty := (.object "java/lang/Throwable")) (by decide)
        have f338 : Fld Z h328 b326 "java/lang/Throwable" "stackTrace" "[Ljava/lang/StackTraceElement;" .null := D333 (Or.inl (w60 hw)) (ty := (.array (.object "java/lang/StackTraceElement"))) (by decide)
        have f339 : Fld Z h328 b326 "java/lang/Throwable" "suppressedExceptions" "Ljava/util/List;" .null := D333 (Or.inl (w63 hw)) (ty := (.object "java/util/List")) (by decide)
        have f340 : Fld Z h328 b326 "java/lang/Throwable" "detailMessage" "Ljava/lang/String;" .null := D333 (Or.inl (w87 hw)) (ty := (.object "java/lang/String")) (by decide)
        have f341 : Fld Z h328 b326 "java/lang/Throwable" "backtrace" "Ljava/lang/Object;" .null := D333 (Or.inl (w88 hw)) (ty := (.object "java/lang/Object")) (by decide)
        have f342 : Fld Z h328 b326 "java/lang/Throwable" "depth" "I" (.int (0 : Int32)) := D333 (Or.inl (w89 hw)) (ty := .int) (by decide)
        have f343 : Fld Z h328 b326 "com/example/jetway/jetway/FetchException" "kind" "Lcom/example/jetway/jetway/FetchException$Kind;" .null := D333 (Or.inr (w93 hw)) (ty := (.object "com/example/jetway/jetway/FetchException$Kind")) (by decide)
        refine g_dup C X329 at_123 (q := 124) rfl rfl ?_
        refine g_aload C X329 at_124 (q := 126) rfl rfl rfl ?_
        refine g_aload C X329 at_126 (q := 128) rfl rfl rfl ?_
        refine g_callIK0 C X329 hTK hBL (y := (⟨"com/example/jetway/jetway/FetchException", "<init>", "(Ljava/lang/String;Ljava/lang/Throwable;)V"⟩ : MethodName)) (a := b326) (by decide) rfl (w95 hw) (w96 hw) (w97 hw) (w36 hw) (rm_i2 hw (o1 := b37) (cv := .null) O336 W hl (ThS.ext E331 (ThS.keep K322 (List.forall_mem_cons.mpr ⟨Exa.nostat A307, (fun _ z => nomatch z)⟩) (ThS.ext E306 (ThS.keep K297 (List.forall_mem_cons.mpr ⟨Exa.nostat A282, (fun _ z => nomatch z)⟩) (ThS.ext E281 (ThS.keep K54 (List.forall_mem_cons.mpr ⟨Exa.nostat A43, (fun _ z => nomatch z)⟩) (ThS.ext E42 (ThS.wr W34 (ThS.wr W25 (ThS.ext E13 TH)))))))))) A332 U334 f341 f340 f343 ge335 rfl) (W := 1) (by decide) (by decide) (k' := 9) rfl (n' := 8285) rfl (by decide) (by decide) rfl pd_4 (argsL := [(.ref b37), .null]) rfl (rest := [(.ref b326)]) rfl rfl rfl at_128 (q := 131) rfl ?_
        rintro T344 h345 X346 ⟨K347, E348, F349⟩
        have O350 := O336.keep K347 (allS ge335 all0)
        refine g_astore C X346 at_131 (q := 133) rfl rfl (L' := #[.val (.int p0), .val (.int p1), .val (.int p2), .val (.int p3), .val (.int (1 : Int32)), .val (.ref b7), .val (.ref b37), .val (.ref a_UNREACHABLE), .val .null, .val (.ref b276), .val (.ref b301), .val (.ref b326), .unset, .unset, .unset]) rfl ?_
        refine g_iload C X346 at_133 (q := 135) rfl rfl ?_
        refine g_iconst C X346 at_135 (q := 136) rfl (z := (2 : Int32)) rfl ?_
        refine g_icY C X346 at_136 (by decide) (q := 143) (by decide) (by decide) ?_
        refine g_iconst C X346 at_143 (q := 144) rfl (z := (0 : Int32)) rfl ?_
        refine g_istore C X346 at_144 (q := 146) rfl (L' := #[.val (.int p0), .val (.int p1), .val (.int p2), .val (.int p3), .val (.int (1 : Int32)), .val (.ref b7), .val (.ref b37), .val (.ref a_UNREACHABLE), .val .null, .val (.ref b276), .val (.ref b301), .val (.ref b326), .val (.int (0 : Int32)), .unset, .unset]) rfl ?_
        refine g_aload C X346 at_146 (q := 148) rfl rfl rfl ?_
        have f351 := ((((E298.ext E306).keep K322).ext E331).keep K347)
        have f352 := ((((F299.ext E306).keep K322 (ninS (own_ne (Nat.lt_of_lt_of_le A282.lt K297.1) g305) nin0)).ext E331).keep K347 (ninS (own_ne (Nat.lt_of_lt_of_le A282.lt (Nat.le_trans (Nat.le_trans K297.1 E306.1) K322.1)) g330) nin0))
        refine g_callV1 C X346 (y := (⟨"com/example/jetway/jetway/FetchException", "notFound", "()Z"⟩ : MethodName)) (z := (⟨"com/example/jetway/jetway/FetchException", "notFound", "()Z"⟩ : MethodName)) (a := b276) (by decide) (w98 hw) (w99 hw) (w101 hw) (w100 hw) (nf_sel (w101 hw)) f351 (w102 hw) (w36 hw) (rm_notFound_1 hw (o0 := b276) O350 W f351 f352 ge285) (W := 0) (by decide) (by decide) (k' := 9) rfl (n' := 8285) rfl (by decide) (by decide) rfl pd_36 (argsL := []) rfl (rest := []) rfl rfl rfl at_148 (q := 151) rfl ?_
        rintro _ T353 _ X354 ⟨rfl, rfl⟩
        refine g_istore C X354 at_151 (q := 153) rfl (L' := #[.val (.int p0), .val (.int p1), .val (.int p2), .val (.int p3), .val (.int (1 : Int32)), .val (.ref b7), .val (.ref b37), .val (.ref a_UNREACHABLE), .val .null, .val (.ref b276), .val (.ref b301), .val (.ref b326), .val (.int (0 : Int32)), .val (.int (0 : Int32)), .unset]) rfl ?_
        refine g_aload C X354 at_153 (q := 155) rfl rfl rfl ?_
        refine g_callV1 C X354 (y := (⟨"com/example/jetway/jetway/FetchException", "unreachable", "()Z"⟩ : MethodName)) (z := (⟨"com/example/jetway/jetway/FetchException", "unreachable", "()Z"⟩ : MethodName)) (a := b276) (by decide) (w105 hw) (w106 hw) (w108 hw) (w107 hw) (nf_sel (w108 hw)) f351 (w109 hw) (w36 hw) (rm_unreachable_1 hw (o0 := b276) O350 W f351 f352 ge285) (W := 0) (by decide) (by decide) (k' := 9) rfl (n' := 8285) rfl (by decide) (by decide) rfl pd_36 (argsL := []) rfl (rest := []) rfl rfl rfl at_155 (q := 158) rfl ?_
        rintro _ T355 _ X356 ⟨rfl, rfl⟩
        refine g_istore C X356 at_158 (q := 160) rfl (L' := #[.val (.int p0), .val (.int p1), .val (.int p2), .val (.int p3), .val (.int (1 : Int32)), .val (.ref b7), .val (.ref b37), .val (.ref a_UNREACHABLE), .val .null, .val (.ref b276), .val (.ref b301), .val (.ref b326), .val (.int (0 : Int32)), .val (.int (0 : Int32)), .val (.int (1 : Int32))]) rfl ?_
        refine g_iload C X356 at_160 (q := 162) rfl rfl ?_
        refine g_iload C X356 at_162 (q := 164) rfl rfl ?_
        refine g_icN C X356 at_164 (q := 167) rfl (by decide) ?_
        refine g_aload C X356 at_167 (q := 169) rfl rfl rfl ?_
        have f357 := ((E323.ext E331).keep K347)
        have f358 := ((F324.ext E331).keep K347 (ninS (own_ne (Nat.lt_of_lt_of_le A307.lt K322.1) g330) nin0))
        refine g_callV1 C X356 (y := (⟨"com/example/jetway/jetway/FetchException", "notFound", "()Z"⟩ : MethodName)) (z := (⟨"com/example/jetway/jetway/FetchException", "notFound", "()Z"⟩ : MethodName)) (a := b301) (by decide) (w98 hw) (w99 hw) (w101 hw) (w100 hw) (nf_sel (w101 hw)) f357 (w102 hw) (w36 hw) (rm_notFound_0 hw (o0 := b301) O350 W f357 f358 ge310) (W := 0) (by decide) (by decide) (k' := 9) rfl (n' := 8285) rfl (by decide) (by decide) rfl pd_36 (argsL := []) rfl (rest := []) rfl rfl rfl at_169 (q := 172) rfl ?_
        rintro _ T359 _ X360 ⟨rfl, rfl⟩
        refine g_ifN C X360 at_172 (q := 175) rfl (by decide) ?_
        refine g_aload C X360 at_175 (q := 177) rfl rfl rfl ?_
        refine g_callV1 C X360 (y := (⟨"com/example/jetway/jetway/FetchException", "notFound", "()Z"⟩ : MethodName)) (z := (⟨"com/example/jetway/jetway/FetchException", "notFound", "()Z"⟩ : MethodName)) (a := b326) (by decide) (w98 hw) (w99 hw) (w101 hw) (w100 hw) (nf_sel (w101 hw)) E348 (w102 hw) (w36 hw) (rm_notFound_0 hw (o0 := b326) O350 W E348 F349 ge335) (W := 0) (by decide) (by decide) (k' := 9) rfl (n' := 8285) rfl (by decide) (by decide) rfl pd_36 (argsL := []) rfl (rest := []) rfl rfl rfl at_177 (q := 180) rfl ?_
        rintro _ T361 _ X362 ⟨rfl, rfl⟩
        refine g_ifN C X362 at_180 (q := 183) rfl (by decide) ?_
        refine g_iload C X362 at_183 (q := 185) rfl rfl ?_
        refine g_ifY C X362 at_185 (by decide) (q := 193) (by decide) (by decide) ?_
        refine g_iconst C X362 at_193 (q := 194) rfl (z := (1 : Int32)) rfl ?_
        refine g_goto C X362 at_194 (by decide) (q := 198) (by decide) ?_
        exact g_retN C X362 (Or.inl rfl) (z' := 1) (by decide) at_198 (by decide) (by decide) ⟨_, rfl, rfl, trivial⟩
      · refine g_ifN C X270 at_80 (q := 83) rfl (feq hc274).1 ?_
        have hr363 : 1 ≤ v271.toInt := own_f5 hc274 hl272 (by decide)
        obtain rfl : v271 = (1 : Int32) := own_f0 hr363 hh273 (by decide)
        refine g_newU C X270 (w34 hw) (w35 hw) (w36 hw) at_83 (q := 86) rfl (k' := 4) rfl (n' := 15) rfl (by decide) (by decide) ?_
        intro T365 h366 b364 g368 X367 E369 A370 D371 U372
        have ge373 : n0 ≤ b364 := own_ge O56 g368
        have O374 := O56.ext E369
        have f375 : Fld Z h366 b364 "java/lang/Throwable" "cause" "Ljava/lang/Throwable;" .null := D371 (Or.inl (w57 hw)) (ty := (.object "java/lang/Throwable")) (by decide)
        have f376 : Fld Z h366 b364 "java/lang/Throwable" "stackTrace" "[Ljava/lang/StackTraceElement;" .null := D371 (Or.inl (w60 hw)) (ty := (.array (.object "java/lang/StackTraceElement"))) (by decide)
        have f377 : Fld Z h366 b364 "java/lang/Throwable" "suppressedExceptions" "Ljava/util/List;" .null := D371 (Or.inl (w63 hw)) (ty := (.object "java/util/List")) (by decide)
        have f378 : Fld Z h366 b364 "java/lang/Throwable" "detailMessage" "Ljava/lang/String;" .null := D371 (Or.inl (w87 hw)) (ty := (.object "java/lang/String")) (by decide)
        have f379 : Fld Z h366 b364 "java/lang/Throwable" "backtrace" "Ljava/lang/Object;" .null := D371 (Or.inl (w88 hw)) (ty := (.object "java/lang/Object")) (by decide)
        have f380 : Fld Z h366 b364 "java/lang/Throwable" "depth" "I" (.int (0 : Int32)) := D371 (Or.inl (w89 hw)) (ty := .int) (by decide)
        have f381 : Fld Z h366 b364 "com/example/jetway/jetway/FetchException" "kind" "Lcom/example/jetway/jetway/FetchException$Kind;" .null := D371 (Or.inr (w93 hw)) (ty := (.object "com/example/jetway/jetway/FetchException$Kind")) (by decide)
        refine g_dup C X367 at_86 (q := 87) rfl rfl ?_
        refine g_aload C X367 at_87 (q := 89) rfl rfl rfl ?_
        refine g_callIK0 C X367 hTK hBL (y := (⟨"com/example/jetway/jetway/FetchException", "<init>", "(Ljava/lang/String;)V"⟩ : MethodName)) (a := b364) (by decide) rfl (w37 hw) (w38 hw) (w39 hw) (w36 hw) (rm_i1 hw (o1 := b37) O374 W hl (ThS.ext E369 (ThS.keep K54 (List.forall_mem_cons.mpr ⟨Exa.nostat A43, (fun _ z => nomatch z)⟩) (ThS.ext E42 (ThS.wr W34 (ThS.wr W25 (ThS.ext E13 TH)))))) A370 U372 f379 f378 f381 ge373) (W := 1) (by decide) (by decide) (k' := 5) rfl (n' := 2767) rfl (by decide) (by decide) rfl pd_29 (argsL := [(.ref b37)]) rfl (rest := [(.ref b364)]) rfl rfl rfl at_89 (q := 92) rfl ?_
        rintro T382 h383 X384 ⟨K385, E386, F387⟩
        have O388 := O374.keep K385 (allS ge373 all0)
        refine g_astore C X384 at_92 (q := 94) rfl rfl (L' := #[.val (.int p0), .val (.int p1), .val (.int p2), .val (.int p3), .val (.int (1 : Int32)), .val (.ref b7), .val (.ref b37), .val (.ref a_UNREACHABLE), .val (.ref b364), .unset, .unset, .unset, .unset, .unset, .unset]) rfl ?_
        refine g_newU C X384 (w34 hw) (w35 hw) (w36 hw) at_94 (q := 97) rfl (k' := 6) rfl (n' := 2774) rfl (by decide) (by decide) ?_
        intro T390 h391 b389 g393 X392 E394 A395 D396 U397
        have ge398 : n0 ≤ b389 := own_ge O388 g393
        have O399 := O388.ext E394
        have f400 : Fld Z h391 b389 "java/lang/Throwable" "cause" "Ljava/lang/Throwable;" .null := D396 (Or.inl (w57 hw)) (ty := (.object "java/lang/Throwable")) (by decide)
        have f401 : Fld Z h391 b389 "java/lang/Throwable" "stackTrace" "[Ljava/lang/StackTraceElement;" .null := D396 (Or.inl (w60 hw)) (ty := (.array (.object "java/lang/StackTraceElement"))) (by decide)
        have f402 : Fld Z h391 b389 "java/lang/Throwable" "suppressedExceptions" "Ljava/util/List;" .null := D396 (Or.inl (w63 hw)) (ty := (.object "java/util/List")) (by decide)
        have f403 : Fld Z h391 b389 "java/lang/Throwable" "detailMessage" "Ljava/lang/String;" .null := D396 (Or.inl (w87 hw)) (ty := (.object "java/lang/String")) (by decide)
        have f404 : Fld Z h391 b389 "java/lang/Throwable" "backtrace" "Ljava/lang/Object;" .null := D396 (Or.inl (w88 hw)) (ty := (.object "java/lang/Object")) (by decide)
        have f405 : Fld Z h391 b389 "java/lang/Throwable" "depth" "I" (.int (0 : Int32)) := D396 (Or.inl (w89 hw)) (ty := .int) (by decide)
        have f406 : Fld Z h391 b389 "com/example/jetway/jetway/FetchException" "kind" "Lcom/example/jetway/jetway/FetchException$Kind;" .null := D396 (Or.inr (w93 hw)) (ty := (.object "com/example/jetway/jetway/FetchException$Kind")) (by decide)
        refine g_dup C X392 at_97 (q := 98) rfl rfl ?_
        refine g_aload C X392 at_98 (q := 100) rfl rfl rfl ?_
        refine g_aload C X392 at_100 (q := 102) rfl rfl rfl ?_
        refine g_aload C X392 at_102 (q := 104) rfl rfl rfl ?_
        refine g_callIK0 C X392 hTK hBL (y := (⟨"com/example/jetway/jetway/FetchException", "<init>", "(Ljava/lang/String;Ljava/lang/Throwable;Lcom/example/jetway/jetway/FetchException$Kind;)V"⟩ : MethodName)) (a := b389) (by decide) rfl (w94 hw) (w42 hw) (w43 hw) (w36 hw) (rm_i3 hw (o1 := b37) (cv := (.ref b364)) (kk := a_UNREACHABLE) O399 W hl (ThS.ext E394 (ThS.keep K385 (List.forall_mem_cons.mpr ⟨Exa.nostat A370, (fun _ z => nomatch z)⟩) (ThS.ext E369 (ThS.keep K54 (List.forall_mem_cons.mpr ⟨Exa.nostat A43, (fun _ z => nomatch z)⟩) (ThS.ext E42 (ThS.wr W34 (ThS.wr W25 (ThS.ext E13 TH)))))))) A395 U397 f404 f403 f406 ge398 rfl) (W := 1) (by decide) (by decide) (k' := 7) rfl (n' := 5526) rfl (by decide) (by decide) rfl pd_21 (argsL := [(.ref b37), (.ref b364), (.ref a_UNREACHABLE)]) rfl (rest := [(.ref b389)]) rfl rfl rfl at_104 (q := 107) rfl ?_
        rintro T407 h408 X409 ⟨K410, E411, F412⟩
        have O413 := O399.keep K410 (allS ge398 all0)
        refine g_astore C X409 at_107 (q := 109) rfl rfl (L' := #[.val (.int p0), .val (.int p1), .val (.int p2), .val (.int p3), .val (.int (1 : Int32)), .val (.ref b7), .val (.ref b37), .val (.ref a_UNREACHABLE), .val (.ref b364), .val (.ref b389), .unset, .unset, .unset, .unset, .unset]) rfl ?_
        refine g_newU C X409 (w34 hw) (w35 hw) (w36 hw) at_109 (q := 112) rfl (k' := 8) rfl (n' := 5533) rfl (by decide) (by decide) ?_
        intro T415 h416 b414 g418 X417 E419 A420 D421 U422
        have ge423 : n0 ≤ b414 := own_ge O413 g418
        have O424 := O413.ext E419
        have f425 : Fld Z h416 b414 "java/lang/Throwable" "cause" "Ljava/lang/Throwable;" .null := D421 (Or.inl (w57 hw)) (ty := (.object "java/lang/Throwable")) (by decide)
        have f426 : Fld Z h416 b414 "java/lang/Throwable" "stackTrace" "[Ljava/lang/StackTraceElement;" .null := D421 (Or.inl (w60 hw)) (ty := (.array (.object "java/lang/StackTraceElement"))) (by decide)
        have f427 : Fld Z h416 b414 "java/lang/Throwable" "suppressedExceptions" "Ljava/util/List;" .null := D421 (Or.inl (w63 hw)) (ty := (.object "java/util/List")) (by decide)
        have f428 : Fld Z h416 b414 "java/lang/Throwable" "detailMessage" "Ljava/lang/String;" .null := D421 (Or.inl (w87 hw)) (ty := (.object "java/lang/String")) (by decide)
        have f429 : Fld Z h416 b414 "java/lang/Throwable" "backtrace" "Ljava/lang/Object;" .null := D421 (Or.inl (w88 hw)) (ty := (.object "java/lang/Object")) (by decide)
        have f430 : Fld Z h416 b414 "java/lang/Throwable" "depth" "I" (.int (0 : Int32)) := D421 (Or.inl (w89 hw)) (ty := .int) (by decide)
        have f431 : Fld Z h416 b414 "com/example/jetway/jetway/FetchException" "kind" "Lcom/example/jetway/jetway/FetchException$Kind;" .null := D421 (Or.inr (w93 hw)) (ty := (.object "com/example/jetway/jetway/FetchException$Kind")) (by decide)
        refine g_dup C X417 at_112 (q := 113) rfl rfl ?_
        refine g_aload C X417 at_113 (q := 115) rfl rfl rfl ?_
        refine g_callIK0 C X417 hTK hBL (y := (⟨"com/example/jetway/jetway/FetchException", "<init>", "(Ljava/lang/String;)V"⟩ : MethodName)) (a := b414) (by decide) rfl (w37 hw) (w38 hw) (w39 hw) (w36 hw) (rm_i1 hw (o1 := b37) O424 W hl (ThS.ext E419 (ThS.keep K410 (List.forall_mem_cons.mpr ⟨Exa.nostat A395, (fun _ z => nomatch z)⟩) (ThS.ext E394 (ThS.keep K385 (List.forall_mem_cons.mpr ⟨Exa.nostat A370, (fun _ z => nomatch z)⟩) (ThS.ext E369 (ThS.keep K54 (List.forall_mem_cons.mpr ⟨Exa.nostat A43, (fun _ z => nomatch z)⟩) (ThS.ext E42 (ThS.wr W34 (ThS.wr W25 (ThS.ext E13 TH)))))))))) A420 U422 f429 f428 f431 ge423) (W := 1) (by decide) (by decide) (k' := 9) rfl (n' := 8285) rfl (by decide) (by decide) rfl pd_29 (argsL := [(.ref b37)]) rfl (rest := [(.ref b414)]) rfl rfl rfl at_115 (q := 118) rfl ?_
        rintro T432 h433 X434 ⟨K435, E436, F437⟩
        have O438 := O424.keep K435 (allS ge423 all0)
        refine g_astore C X434 at_118 (q := 120) rfl rfl (L' := #[.val (.int p0), .val (.int p1), .val (.int p2), .val (.int p3), .val (.int (1 : Int32)), .val (.ref b7), .val (.ref b37), .val (.ref a_UNREACHABLE), .val (.ref b364), .val (.ref b389), .val (.ref b414), .unset, .unset, .unset, .unset]) rfl ?_
        refine g_newU C X434 (w34 hw) (w35 hw) (w36 hw) at_120 (q := 123) rfl (k' := 10) rfl (n' := 8292) rfl (by decide) (by decide) ?_
        intro T440 h441 b439 g443 X442 E444 A445 D446 U447
        have ge448 : n0 ≤ b439 := own_ge O438 g443
        have O449 := O438.ext E444
        have f450 : Fld Z h441 b439 "java/lang/Throwable" "cause" "Ljava/lang/Throwable;" .null := D446 (Or.inl (w57 hw)) (ty := (.object "java/lang/Throwable")) (by decide)
        have f451 : Fld Z h441 b439 "java/lang/Throwable" "stackTrace" "[Ljava/lang/StackTraceElement;" .null := D446 (Or.inl (w60 hw)) (ty := (.array (.object "java/lang/StackTraceElement"))) (by decide)
        have f452 : Fld Z h441 b439 "java/lang/Throwable" "suppressedExceptions" "Ljava/util/List;" .null := D446 (Or.inl (w63 hw)) (ty := (.object "java/util/List")) (by decide)
        have f453 : Fld Z h441 b439 "java/lang/Throwable" "detailMessage" "Ljava/lang/String;" .null := D446 (Or.inl (w87 hw)) (ty := (.object "java/lang/String")) (by decide)
        have f454 : Fld Z h441 b439 "java/lang/Throwable" "backtrace" "Ljava/lang/Object;" .null := D446 (Or.inl (w88 hw)) (ty := (.object "java/lang/Object")) (by decide)
        have f455 : Fld Z h441 b439 "java/lang/Throwable" "depth" "I" (.int (0 : Int32)) := D446 (Or.inl (w89 hw)) (ty := .int) (by decide)
        have f456 : Fld Z h441 b439 "com/example/jetway/jetway/FetchException" "kind" "Lcom/example/jetway/jetway/FetchException$Kind;" .null := D446 (Or.inr (w93 hw)) (ty := (.object "com/example/jetway/jetway/FetchException$Kind")) (by decide)
        refine g_dup C X442 at_123 (q := 124) rfl rfl ?_
        refine g_aload C X442 at_124 (q := 126) rfl rfl rfl ?_
        refine g_aload C X442 at_126 (q := 128) rfl rfl rfl ?_
        refine g_callIK0 C X442 hTK hBL (y := (⟨"com/example/jetway/jetway/FetchException", "<init>", "(Ljava/lang/String;Ljava/lang/Throwable;)V"⟩ : MethodName)) (a := b439) (by decide) rfl (w95 hw) (w96 hw) (w97 hw) (w36 hw) (rm_i2 hw (o1 := b37) (cv := (.ref b364)) O449 W hl (ThS.ext E444 (ThS.keep K435 (List.forall_mem_cons.mpr ⟨Exa.nostat A420, (fun _ z => nomatch z)⟩) (ThS.ext E419 (ThS.keep K410 (List.forall_mem_cons.mpr ⟨Exa.nostat A395, (fun _ z => nomatch z)⟩) (ThS.ext E394 (ThS.keep K385 (List.forall_mem_cons.mpr ⟨Exa.nostat A370, (fun _ z => nomatch z)⟩) (ThS.ext E369 (ThS.keep K54 (List.forall_mem_cons.mpr ⟨Exa.nostat A43, (fun _ z => nomatch z)⟩) (ThS.ext E42 (ThS.wr W34 (ThS.wr W25 (ThS.ext E13 TH)))))))))))) A445 U447 f454 f453 f456 ge448 rfl) (W := 1) (by decide) (by decide) (k' := 11) rfl (n' := 11044) rfl (by decide) (by decide) rfl pd_4 (argsL := [(.ref b37), (.ref b364)]) rfl (rest := [(.ref b439)]) rfl rfl rfl at_128 (q := 131) rfl ?_
        rintro T457 h458 X459 ⟨K460, E461, F462⟩
        have O463 := O449.keep K460 (allS ge448 all0)
        refine g_astore C X459 at_131 (q := 133) rfl rfl (L' := #[.val (.int p0), .val (.int p1), .val (.int p2), .val (.int p3), .val (.int (1 : Int32)), .val (.ref b7), .val (.ref b37), .val (.ref a_UNREACHABLE), .val (.ref b364), .val (.ref b389), .val (.ref b414), .val (.ref b439), .unset, .unset, .unset]) rfl ?_
        refine g_iload C X459 at_133 (q := 135) rfl rfl ?_
        refine g_iconst C X459 at_135 (q := 136) rfl (z := (2 : Int32)) rfl ?_
        refine g_icY C X459 at_136 (by decide) (q := 143) (by decide) (by decide) ?_
        refine g_iconst C X459 at_143 (q := 144) rfl (z := (0 : Int32)) rfl ?_
        refine g_istore C X459 at_144 (q := 146) rfl (L' := #[.val (.int p0), .val (.int p1), .val (.int p2), .val (.int p3), .val (.int (1 : Int32)), .val (.ref b7), .val (.ref b37), .val (.ref a_UNREACHABLE), .val (.ref b364), .val (.ref b389), .val (.ref b414), .val (.ref b439), .val (.int (0 : Int32)), .unset, .unset]) rfl ?_
        refine g_aload C X459 at_146 (q := 148) rfl rfl rfl ?_
        have f464 := ((((E411.ext E419).keep K435).ext E444).keep K460)
        have f465 := ((((F412.ext E419).keep K435 (ninS (own_ne (Nat.lt_of_lt_of_le A395.lt K410.1) g418) nin0)).ext E444).keep K460 (ninS (own_ne (Nat.lt_of_lt_of_le A395.lt (Nat.le_trans (Nat.le_trans K410.1 E419.1) K435.1)) g443) nin0))
        refine g_callV1 C X459 (y := (⟨"com/example/jetway/jetway/FetchException", "notFound", "()Z"⟩ : MethodName)) (z := (⟨"com/example/jetway/jetway/FetchException", "notFound", "()Z"⟩ : MethodName)) (a := b389) (by decide) (w98 hw) (w99 hw) (w101 hw) (w100 hw) (nf_sel (w101 hw)) f464 (w102 hw) (w36 hw) (rm_notFound_1 hw (o0 := b389) O463 W f464 f465 ge398) (W := 0) (by decide) (by decide) (k' := 11) rfl (n' := 11044) rfl (by decide) (by decide) rfl pd_36 (argsL := []) rfl (rest := []) rfl rfl rfl at_148 (q := 151) rfl ?_
        rintro _ T466 _ X467 ⟨rfl, rfl⟩
        refine g_istore C X467 at_151 (q := 153) rfl (L' := #[.val (.int p0), .val (.int p1), .val (.int p2), .val (.int p3), .val (.int (1 : Int32)), .val (.ref b7), .val (.ref b37), .val (.ref a_UNREACHABLE), .val (.ref b364), .val (.ref b389), .val (.ref b414), .val (.ref b439), .val (.int (0 : Int32)), .val (.int (0 : Int32)), .unset]) rfl ?_
        refine g_aload C X467 at_153 (q := 155) rfl rfl rfl ?_
        refine g_callV1 C X467 (y := (⟨"com/example/jetway/jetway/FetchException", "unreachable", "()Z"⟩ : MethodName)) (z := (⟨"com/example/jetway/jetway/FetchException", "unreachable", "()Z"⟩ : MethodName)) (a := b389) (by decide) (w105 hw) (w106 hw) (w108 hw) (w107 hw) (nf_sel (w108 hw)) f464 (w109 hw) (w36 hw) (rm_unreachable_1 hw (o0 := b389) O463 W f464 f465 ge398) (W := 0) (by decide) (by decide) (k' := 11) rfl (n' := 11044) rfl (by decide) (by decide) rfl pd_36 (argsL := []) rfl (rest := []) rfl rfl rfl at_155 (q := 158) rfl ?_
        rintro _ T468 _ X469 ⟨rfl, rfl⟩
        refine g_istore C X469 at_158 (q := 160) rfl (L' := #[.val (.int p0), .val (.int p1), .val (.int p2), .val (.int p3), .val (.int (1 : Int32)), .val (.ref b7), .val (.ref b37), .val (.ref a_UNREACHABLE), .val (.ref b364), .val (.ref b389), .val (.ref b414), .val (.ref b439), .val (.int (0 : Int32)), .val (.int (0 : Int32)), .val (.int (1 : Int32))]) rfl ?_
        refine g_iload C X469 at_160 (q := 162) rfl rfl ?_
        refine g_iload C X469 at_162 (q := 164) rfl rfl ?_
        refine g_icN C X469 at_164 (q := 167) rfl (by decide) ?_
        refine g_aload C X469 at_167 (q := 169) rfl rfl rfl ?_
        have f470 := ((E436.ext E444).keep K460)
        have f471 := ((F437.ext E444).keep K460 (ninS (own_ne (Nat.lt_of_lt_of_le A420.lt K435.1) g443) nin0))
        refine g_callV1 C X469 (y := (⟨"com/example/jetway/jetway/FetchException", "notFound", "()Z"⟩ : MethodName)) (z := (⟨"com/example/jetway/jetway/FetchException", "notFound", "()Z"⟩ : MethodName)) (a := b414) (by decide) (w98 hw) (w99 hw) (w101 hw) (w100 hw) (nf_sel (w101 hw)) f470 (w102 hw) (w36 hw) (rm_notFound_0 hw (o0 := b414) O463 W f470 f471 ge423) (W := 0) (by decide) (by decide) (k' := 11) rfl (n' := 11044) rfl (by decide) (by decide) rfl pd_36 (argsL := []) rfl (rest := []) rfl rfl rfl at_169 (q := 172) rfl ?_
        rintro _ T472 _ X473 ⟨rfl, rfl⟩
        refine g_ifN C X473 at_172 (q := 175) rfl (by decide) ?_
        refine g_aload C X473 at_175 (q := 177) rfl rfl rfl ?_
        refine g_callV1 C X473 (y := (⟨"com/example/jetway/jetway/FetchException", "notFound", "()Z"⟩ : MethodName)) (z := (⟨"com/example/jetway/jetway/FetchException", "notFound", "()Z"⟩ : MethodName)) (a := b439) (by decide) (w98 hw) (w99 hw) (w101 hw) (w100 hw) (nf_sel (w101 hw)) E461 (w102 hw) (w36 hw) (rm_notFound_0 hw (o0 := b439) O463 W E461 F462 ge448) (W := 0) (by decide) (by decide) (k' := 11) rfl (n' := 11044) rfl (by decide) (by decide) rfl pd_36 (argsL := []) rfl (rest := []) rfl rfl rfl at_177 (q := 180) rfl ?_
        rintro _ T474 _ X475 ⟨rfl, rfl⟩
        refine g_ifN C X475 at_180 (q := 183) rfl (by decide) ?_
        refine g_iload C X475 at_183 (q := 185) rfl rfl ?_
        refine g_ifY C X475 at_185 (by decide) (q := 193) (by decide) (by decide) ?_
        refine g_iconst C X475 at_193 (q := 194) rfl (z := (1 : Int32)) rfl ?_
        refine g_goto C X475 at_194 (by decide) (q := 198) (by decide) ?_
        exact g_retN C X475 (Or.inl rfl) (z' := 1) (by decide) at_198 (by decide) (by decide) ⟨_, rfl, rfl, trivial⟩
    · refine g_icY C X53 at_58 (by decide) (q := 69) (by decide) (feq hc267).2 ?_
      have hr476 : 2 ≤ v4.toInt := own_f5 hc267 hr266 (by decide)
      obtain rfl : v4 = (2 : Int32) := own_f0 hr476 hh6 (by decide)
      refine g_getS C X53 (host := "") (Or.inl (w113 hw)) Via.refl (W.2.2.1.ext O56.2) at_69 (q := 72) rfl ?_
      intro T477 X478
      refine g_astore C X478 at_72 (q := 74) rfl rfl (L' := #[.val (.int p0), .val (.int p1), .val (.int p2), .val (.int p3), .val (.int (2 : Int32)), .val (.ref b7), .val (.ref b37), .val (.ref a_NOT_FOUND), .unset, .unset, .unset, .unset, .unset, .unset, .unset]) rfl ?_
      refine g_aconstNull C X478 at_74 (q := 75) rfl ?_
      refine g_astore C X478 at_75 (q := 77) rfl rfl (L' := #[.val (.int p0), .val (.int p1), .val (.int p2), .val (.int p3), .val (.int (2 : Int32)), .val (.ref b7), .val (.ref b37), .val (.ref a_NOT_FOUND), .val .null, .unset, .unset, .unset, .unset, .unset, .unset]) rfl ?_
      refine g_iloadN C X478 at_77 (q := 78) rfl rfl ?_
      refine g_iconst C X478 at_78 (q := 79) rfl (z := (1 : Int32)) rfl ?_
      obtain ⟨v479, ev479⟩ : ∃ z, (p3 &&& (1 : Int32)) = z := ⟨_, rfl⟩
      have hl480 : 0 ≤ v479.toInt := by rw [← ev479]; exact (c_and p3 (1 : Int32) (by decide)).1
      have hh481 : v479.toInt ≤ 1 := by rw [← ev479]; exact (c_and p3 (1 : Int32) (by decide)).2
      refine g_iand C X478 at_79 (q := 80) rfl (z := v479) ev479 ?_
      by_cases hc482 : v479 = (0 : Int32)
      · refine g_ifY C X478 at_80 (by decide) (q := 94) (by decide) (teq hc482).1 ?_
        obtain rfl : v479 = (0 : Int32) := hc482
        refine g_newU C X478 (w34 hw) (w35 hw) (w36 hw) at_94 (q := 97) rfl (k' := 4) rfl (n' := 15) rfl (by decide) (by decide) ?_
        intro T485 h486 b484 g488 X487 E489 A490 D491 U492
        have ge493 : n0 ≤ b484 := own_ge O56 g488
        have O494 := O56.ext E489
        have f495 : Fld Z h486 b484 "java/lang/Throwable" "cause" "Ljava/lang/Throwable;" .null := D491 (Or.inl (w57 hw)) (ty := (.object "java/lang/Throwable")) (by decide)
        have f496 : Fld Z h486 b484 "java/lang/Throwable" "stackTrace" "[Ljava/lang/StackTraceElement;" .null := D491 (Or.inl (w60 hw)) (ty := (.array (.object "java/lang/StackTraceElement"))) (by decide)
        have f497 : Fld Z h486 b484 "java/lang/Throwable" "suppressedExceptions" "Ljava/util/List;" .null := D491 (Or.inl (w63 hw)) (ty := (.object "java/util/List")) (by decide)
        have f498 : Fld Z h486 b484 "java/lang/Throwable" "detailMessage" "Ljava/lang/String;" .null := D491 (Or.inl (w87 hw)) (ty := (.object "java/lang/String")) (by decide)
        have f499 : Fld Z h486 b484 "java/lang/Throwable" "backtrace" "Ljava/lang/Object;" .null := D491 (Or.inl (w88 hw)) (ty := (.object "java/lang/Object")) (by decide)
        have f500 : Fld Z h486 b484 "java/lang/Throwable" "depth" "I" (.int (0 : Int32)) := D491 (Or.inl (w89 hw)) (ty := .int) (by decide)
        have f501 : Fld Z h486 b484 "com/example/jetway/jetway/FetchException" "kind" "Lcom/example/jetway/jetway/FetchException$Kind;" .null := D491 (Or.inr (w93 hw)) (ty := (.object "com/example/jetway/jetway/FetchException$Kind")) (by decide)
        refine g_dup C X487 at_97 (q := 98) rfl rfl ?_
        refine g_aload C X487 at_98 (q := 100) rfl rfl rfl ?_
        refine g_aload C X487 at_100 (q := 102) rfl rfl rfl ?_
        refine g_aload C X487 at_102 (q := 104) rfl rfl rfl ?_
        refine g_callIK0 C X487 hTK hBL (y := (⟨"com/example/jetway/jetway/FetchException", "<init>", "(Ljava/lang/String;Ljava/lang/Throwable;Lcom/example/jetway/jetway/FetchException$Kind;)V"⟩ : MethodName)) (a := b484) (by decide) rfl (w94 hw) (w42 hw) (w43 hw) (w36 hw) (rm_i3 hw (o1 := b37) (cv := .null) (kk := a_NOT_FOUND) O494 W hl (ThS.ext E489 (ThS.keep K54 (List.forall_mem_cons.mpr ⟨Exa.nostat A43, (fun _ z => nomatch z)⟩) (ThS.ext E42 (ThS.wr W34 (ThS.wr W25 (ThS.ext E13 TH)))))) A490 U492 f499 f498 f501 ge493 rfl) (W := 1) (by decide) (by decide) (k' := 5) rfl (n' := 2767) rfl (by decide) (by decide) rfl pd_21 (argsL := [(.ref b37), .null, (.ref a_NOT_FOUND)]) rfl (rest := [(.ref b484)]) rfl rfl rfl at_104 (q := 107) rfl ?_
        rintro T502 h503 X504 ⟨K505, E506, F507⟩
        have O508 := O494.keep K505 (allS ge493 all0)
        refine g_astore C X504 at_107 (q := 109) rfl rfl (L' := #[.val (.int p0), .val (.int p1), .val (.int p2), .val (.int p3), .val (.int (2 : Int32)), .val (.ref b7), .val (.ref b37), .val (.ref a_NOT_FOUND), .val .null, .val (.ref b484), .unset, .unset, .unset, .unset, .unset]) rfl ?_
        refine g_newU C X504 (w34 hw) (w35 hw) (w36 hw) at_109 (q := 112) rfl (k' := 6) rfl (n' := 2774) rfl (by decide) (by decide) ?_
        intro T510 h511 b509 g513 X512 E514 A515 D516 U517
        have ge518 : n0 ≤ b509 := own_ge O508 g513
        have O519 := O508.ext E514
        have f520 : Fld Z h511 b509 "java/lang/Throwable" "cause" "Ljava/lang/Throwable;" .null := D516 (Or.inl (w57 hw)) (ty := (.object "java/lang/Throwable")) (by decide)
        have f521 : Fld Z h511 b509 "java/lang/Throwable" "stackTrace" "[Ljava/lang/StackTraceElement;" .null := D516 (Or.inl (w60 hw)) (ty := (.array (.object "java/lang/StackTraceElement"))) (by decide)
        have f522 : Fld Z h511 b509 "java/lang/Throwable" "suppressedExceptions" "Ljava/util/List;" .null := D516 (Or.inl (w63 hw)) (ty := (.object "java/util/List")) (by decide)
        have f523 : Fld Z h511 b509 "java/lang/Throwable" "detailMessage" "Ljava/lang/String;" .null := D516 (Or.inl (w87 hw)) (ty := (.object "java/lang/String")) (by decide)
        have f524 : Fld Z h511 b509 "java/lang/Throwable" "backtrace" "Ljava/lang/Object;" .null := D516 (Or.inl (w88 hw)) (ty := (.object "java/lang/Object")) (by decide)
        have f525 : Fld Z h511 b509 "java/lang/Throwable" "depth" "I" (.int (0 : Int32)) := D516 (Or.inl (w89 hw)) (ty := .int) (by decide)
        have f526 : Fld Z h511 b509 "com/example/jetway/jetway/FetchException" "kind" "Lcom/example/jetway/jetway/FetchException$Kind;" .null := D516 (Or.inr (w93 hw)) (ty := (.object "com/example/jetway/jetway/FetchException$Kind")) (by decide)
        refine g_dup C X512 at_112 (q := 113) rfl rfl ?_
        refine g_aload C X512 at_113 (q := 115) rfl rfl rfl ?_
        refine g_callIK0 C X512 hTK hBL (y := (⟨"com/example/jetway/jetway/FetchException", "<init>", "(Ljava/lang/String;)V"⟩ : MethodName)) (a := b509) (by decide) rfl (w37 hw) (w38 hw) (w39 hw) (w36 hw) (rm_i1 hw (o1 := b37) O519 W hl (ThS.ext E514 (ThS.keep K505 (List.forall_mem_cons.mpr ⟨Exa.nostat A490, (fun _ z => nomatch z)⟩) (ThS.ext E489 (ThS.keep K54 (List.forall_mem_cons.mpr ⟨Exa.nostat A43, (fun _ z => nomatch z)⟩) (ThS.ext E42 (ThS.wr W34 (ThS.wr W25 (ThS.ext E13 TH)))))))) A515 U517 f524 f523 f526 ge518) (W := 1) (by decide) (by decide) (k' := 7) rfl (n' := 5526) rfl (by decide) (by decide) rfl pd_29 (argsL := [(.ref b37)]) rfl (rest := [(.ref b509)]) rfl rfl rfl at_115 (q := 118) rfl ?_
        rintro T527 h528 X529 ⟨K530, E531, F532⟩
        have O533 := O519.keep K530 (allS ge518 all0)
        refine g_astore C X529 at_118 (q := 120) rfl rfl (L' := #[.val (.int p0), .val (.int p1), .val (.int p2), .val (.int p3), .val (.int (2 : Int32)), .val (.ref b7), .val (.ref b37), .val (.ref a_NOT_FOUND), .val .null, .val (.ref b484), .val (.ref b509), .unset, .unset, .unset, .unset]) rfl ?_
        refine g_newU C X529 (w34 hw) (w35 hw) (w36 hw) at_120 (q := 123) rfl (k' := 8) rfl (n' := 5533) rfl (by decide) (by decide) ?_
        intro T535 h536 b534 g538 X537 E539 A540 D541 U542
        have ge543 : n0 ≤ b534 := own_ge O533 g538
        have O544 := O533.ext E539
        have f545 : Fld Z h536 b534 "java/lang/Throwable" "cause" "Ljava/lang/Throwable;" .null := D541 (Or.inl (w57 hw)) (ty := (.object "java/lang/Throwable")) (by decide)
        have f546 : Fld Z h536 b534 "java/lang/Throwable" "stackTrace" "[Ljava/lang/StackTraceElement;" .null := D541 (Or.inl (w60 hw)) (ty := (.array (.object "java/lang/StackTraceElement"))) (by decide)
        have f547 : Fld Z h536 b534 "java/lang/Throwable" "suppressedExceptions" "Ljava/util/List;" .null := D541 (Or.inl (w63 hw)) (ty := (.object "java/util/List")) (by decide)
        have f548 : Fld Z h536 b534 "java/lang/Throwable" "detailMessage" "Ljava/lang/String;" .null := D541 (Or.inl (w87 hw)) (ty := (.object "java/lang/String")) (by decide)
        have f549 : Fld Z h536 b534 "java/lang/Throwable" "backtrace" "Ljava/lang/Object;" .null := D541 (Or.inl (w88 hw)) (ty := (.object "java/lang/Object")) (by decide)
        have f550 : Fld Z h536 b534 "java/lang/Throwable" "depth" "I" (.int (0 : Int32)) := D541 (Or.inl (w89 hw)) (ty := .int) (by decide)
        have f551 : Fld Z h536 b534 "com/example/jetway/jetway/FetchException" "kind" "Lcom/example/jetway/jetway/FetchException$Kind;" .null := D541 (Or.inr (w93 hw)) (ty := (.object "com/example/jetway/jetway/FetchException$Kind")) (by decide)
        refine g_dup C X537 at_123 (q := 124) rfl rfl ?_
        refine g_aload C X537 at_124 (q := 126) rfl rfl rfl ?_
        refine g_aload C X537 at_126 (q := 128) rfl rfl rfl ?_
        refine g_callIK0 C X537 hTK hBL (y := (⟨"com/example/jetway/jetway/FetchException", "<init>", "(Ljava/lang/String;Ljava/lang/Throwable;)V"⟩ : MethodName)) (a := b534) (by decide) rfl (w95 hw) (w96 hw) (w97 hw) (w36 hw) (rm_i2 hw (o1 := b37) (cv := .null) O544 W hl (ThS.ext E539 (ThS.keep K530 (List.forall_mem_cons.mpr ⟨Exa.nostat A515, (fun _ z => nomatch z)⟩) (ThS.ext E514 (ThS.keep K505 (List.forall_mem_cons.mpr ⟨Exa.nostat A490, (fun _ z => nomatch z)⟩) (ThS.ext E489 (ThS.keep K54 (List.forall_mem_cons.mpr ⟨Exa.nostat A43, (fun _ z => nomatch z)⟩) (ThS.ext E42 (ThS.wr W34 (ThS.wr W25 (ThS.ext E13 TH)))))))))) A540 U542 f549 f548 f551 ge543 rfl) (W := 1) (by decide) (by decide) (k' := 9) rfl (n' := 8285) rfl (by decide) (by decide) rfl pd_4 (argsL := [(.ref b37), .null]) rfl (rest := [(.ref b534)]) rfl rfl rfl at_128 (q := 131) rfl ?_
        rintro T552 h553 X554 ⟨K555, E556, F557⟩
        have O558 := O544.keep K555 (allS ge543 all0)
        refine g_astore C X554 at_131 (q := 133) rfl rfl (L' := #[.val (.int p0), .val (.int p1), .val (.int p2), .val (.int p3), .val (.int (2 : Int32)), .val (.ref b7), .val (.ref b37), .val (.ref a_NOT_FOUND), .val .null, .val (.ref b484), .val (.ref b509), .val (.ref b534), .unset, .unset, .unset]) rfl ?_
        refine g_iload C X554 at_133 (q := 135) rfl rfl ?_
        refine g_iconst C X554 at_135 (q := 136) rfl (z := (2 : Int32)) rfl ?_
        refine g_icN C X554 at_136 (q := 139) rfl (by decide) ?_
        refine g_iconst C X554 at_139 (q := 140) rfl (z := (1 : Int32)) rfl ?_
        refine g_goto C X554 at_140 (by decide) (q := 144) (by decide) ?_
        refine g_istore C X554 at_144 (q := 146) rfl (L' := #[.val (.int p0), .val (.int p1), .val (.int p2), .val (.int p3), .val (.int (2 : Int32)), .val (.ref b7), .val (.ref b37), .val (.ref a_NOT_FOUND), .val .null, .val (.ref b484), .val (.ref b509), .val (.ref b534), .val (.int (1 : Int32)), .unset, .unset]) rfl ?_
        refine g_aload C X554 at_146 (q := 148) rfl rfl rfl ?_
        have f559 := ((((E506.ext E514).keep K530).ext E539).keep K555)
        have f560 := ((((F507.ext E514).keep K530 (ninS (own_ne (Nat.lt_of_lt_of_le A490.lt K505.1) g513) nin0)).ext E539).keep K555 (ninS (own_ne (Nat.lt_of_lt_of_le A490.lt (Nat.le_trans (Nat.le_trans K505.1 E514.1) K530.1)) g538) nin0))
        refine g_callV1 C X554 (y := (⟨"com/example/jetway/jetway/FetchException", "notFound", "()Z"⟩ : MethodName)) (z := (⟨"com/example/jetway/jetway/FetchException", "notFound", "()Z"⟩ : MethodName)) (a := b484) (by decide) (w98 hw) (w99 hw) (w101 hw) (w100 hw) (nf_sel (w101 hw)) f559 (w102 hw) (w36 hw) (rm_notFound_2 hw (o0 := b484) O558 W f559 f560 ge493) (W := 0) (by decide) (by decide) (k' := 9) rfl (n' := 8285) rfl (by decide) (by decide) rfl pd_36 (argsL := []) rfl (rest := []) rfl rfl rfl at_148 (q := 151) rfl ?_
        rintro _ T561 _ X562 ⟨rfl, rfl⟩
        refine g_istore C X562 at_151 (q := 153) rfl (L' := #[.val (.int p0), .val (.int p1), .val (.int p2), .val (.int p3), .val (.int (2 : Int32)), .val (.ref b7), .val (.ref b37), .val (.ref a_NOT_FOUND), .val .null, .val (.ref b484), .val (.ref b509), .val (.ref b534), .val (.int (1 : Int32)), .val (.int (1 : Int32)), .unset]) rfl ?_
        refine g_aload C X562 at_153 (q := 155) rfl rfl rfl ?_
        refine g_callV1 C X562 (y := (⟨"com/example/jetway/jetway/FetchException", "unreachable", "()Z"⟩ : MethodName)) (z := (⟨"com/example/jetway/jetway/FetchException", "unreachable", "()Z"⟩ : MethodName)) (a := b484) (by decide) (w105 hw) (w106 hw) (w108 hw) (w107 hw) (nf_sel (w108 hw)) f559 (w109 hw) (w36 hw) (rm_unreachable_2 hw (o0 := b484) O558 W f559 f560 ge493) (W := 0) (by decide) (by decide) (k' := 9) rfl (n' := 8285) rfl (by decide) (by decide) rfl pd_36 (argsL := []) rfl (rest := []) rfl rfl rfl at_155 (q := 158) rfl ?_
        rintro _ T563 _ X564 ⟨rfl, rfl⟩
        refine g_istore C X564 at_158 (q := 160) rfl (L' := #[.val (.int p0), .val (.int p1), .val (.int p2), .val (.int p3), .val (.int (2 : Int32)), .val (.ref b7), .val (.ref b37), .val (.ref a_NOT_FOUND), .val .null, .val (.ref b484), .val (.ref b509), .val (.ref b534), .val (.int (1 : Int32)), .val (.int (1 : Int32)), .val (.int (0 : Int32))]) rfl ?_
        refine g_iload C X564 at_160 (q := 162) rfl rfl ?_
        refine g_iload C X564 at_162 (q := 164) rfl rfl ?_
        refine g_icN C X564 at_164 (q := 167) rfl (by decide) ?_
        refine g_aload C X564 at_167 (q := 169) rfl rfl rfl ?_
        have f565 := ((E531.ext E539).keep K555)
        have f566 := ((F532.ext E539).keep K555 (ninS (own_ne (Nat.lt_of_lt_of_le A515.lt K530.1) g538) nin0))
        refine g_callV1 C X564 (y := (⟨"com/example/jetway/jetway/FetchException", "notFound", "()Z"⟩ : MethodName)) (z := (⟨"com/example/jetway/jetway/FetchException", "notFound", "()Z"⟩ : MethodName)) (a := b509) (by decide) (w98 hw) (w99 hw) (w101 hw) (w100 hw) (nf_sel (w101 hw)) f565 (w102 hw) (w36 hw) (rm_notFound_0 hw (o0 := b509) O558 W f565 f566 ge518) (W := 0) (by decide) (by decide) (k' := 9) rfl (n' := 8285) rfl (by decide) (by decide) rfl pd_36 (argsL := []) rfl (rest := []) rfl rfl rfl at_169 (q := 172) rfl ?_
        rintro _ T567 _ X568 ⟨rfl, rfl⟩
        refine g_ifN C X568 at_172 (q := 175) rfl (by decide) ?_
        refine g_aload C X568 at_175 (q := 177) rfl rfl rfl ?_
        refine g_callV1 C X568 (y := (⟨"com/example/jetway/jetway/FetchException", "notFound", "()Z"⟩ : MethodName)) (z := (⟨"com/example/jetway/jetway/FetchException", "notFound", "()Z"⟩ : MethodName)) (a := b534) (by decide) (w98 hw) (w99 hw) (w101 hw) (w100 hw) (nf_sel (w101 hw)) E556 (w102 hw) (w36 hw) (rm_notFound_0 hw (o0 := b534) O558 W E556 F557 ge543) (W := 0) (by decide) (by decide) (k' := 9) rfl (n' := 8285) rfl (by decide) (by decide) rfl pd_36 (argsL := []) rfl (rest := []) rfl rfl rfl at_177 (q := 180) rfl ?_
        rintro _ T569 _ X570 ⟨rfl, rfl⟩
        refine g_ifN C X570 at_180 (q := 183) rfl (by decide) ?_
        refine g_iload C X570 at_183 (q := 185) rfl rfl ?_
        refine g_ifN C X570 at_185 (q := 188) rfl (by decide) ?_
        refine g_iload C X570 at_188 (q := 190) rfl rfl ?_
        refine g_ifN C X570 at_190 (q := 193) rfl (by decide) ?_
        refine g_iconst C X570 at_193 (q := 194) rfl (z := (1 : Int32)) rfl ?_
        refine g_goto C X570 at_194 (by decide) (q := 198) (by decide) ?_
        exact g_retN C X570 (Or.inl rfl) (z' := 1) (by decide) at_198 (by decide) (by decide) ⟨_, rfl, rfl, trivial⟩
      · refine g_ifN C X478 at_80 (q := 83) rfl (feq hc482).1 ?_
        have hr571 : 1 ≤ v479.toInt := own_f5 hc482 hl480 (by decide)
        obtain rfl : v479 = (1 : Int32) := own_f0 hr571 hh481 (by decide)
        refine g_newU C X478 (w34 hw) (w35 hw) (w36 hw) at_83 (q := 86) rfl (k' := 4) rfl (n' := 15) rfl (by decide) (by decide) ?_
        intro T573 h574 b572 g576 X575 E577 A578 D579 U580
        have ge581 : n0 ≤ b572 := own_ge O56 g576
        have O582 := O56.ext E577
        have f583 : Fld Z h574 b572 "java/lang/Throwable" "cause" "Ljava/lang/Throwable;" .null := D579 (Or.inl (w57 hw)) (ty := (.object "java/lang/Throwable")) (by decide)
        have f584 : Fld Z h574 b572 "java/lang/Throwable" "stackTrace" "[Ljava/lang/StackTraceElement;" .null := D579 (Or.inl (w60 hw)) (ty := (.array (.object "java/lang/StackTraceElement"))) (by decide)
        have f585 : Fld Z h574 b572 "java/lang/Throwable" "suppressedExceptions" "Ljava/util/List;" .null := D579 (Or.inl (w63 hw)) (ty := (.object "java/util/List")) (by decide)
        have f586 : Fld Z h574 b572 "java/lang/Throwable" "detailMessage" "Ljava/lang/String;" .null := D579 (Or.inl (w87 hw)) (ty := (.object "java/lang/String")) (by decide)
        have f587 : Fld Z h574 b572 "java/lang/Throwable" "backtrace" "Ljava/lang/Object;" .null := D579 (Or.inl (w88 hw)) (ty := (.object "java/lang/Object")) (by decide)
        have f588 : Fld Z h574 b572 "java/lang/Throwable" "depth" "I" (.int (0 : Int32)) := D579 (Or.inl (w89 hw)) (ty := .int) (by decide)
        have f589 : Fld Z h574 b572 "com/example/jetway/jetway/FetchException" "kind" "Lcom/example/jetway/jetway/FetchException$Kind;" .null := D579 (Or.inr (w93 hw)) (ty := (.object "com/example/jetway/jetway/FetchException$Kind")) (by decide)
        refine g_dup C X575 at_86 (q := 87) rfl rfl ?_
        refine g_aload C X575 at_87 (q := 89) rfl rfl rfl ?_
        refine g_callIK0 C X575 hTK hBL (y := (⟨"com/example/jetway/jetway/FetchException", "<init>", "(Ljava/lang/String;)V"⟩ : MethodName)) (a := b572) (by decide) rfl (w37 hw) (w38 hw) (w39 hw) (w36 hw) (rm_i1 hw (o1 := b37) O582 W hl (ThS.ext E577 (ThS.keep K54 (List.forall_mem_cons.mpr ⟨Exa.nostat A43, (fun _ z => nomatch z)⟩) (ThS.ext E42 (ThS.wr W34 (ThS.wr W25 (ThS.ext E13 TH)))))) A578 U580 f587 f586 f589 ge581) (W := 1) (by decide) (by decide) (k' := 5) rfl (n' := 2767) rfl (by decide) (by decide) rfl pd_29 (argsL := [(.ref b37)]) rfl (rest := [(.ref b572)]) rfl rfl rfl at_89 (q := 92) rfl ?_
        rintro T590 h591 X592 ⟨K593, E594, F595⟩
        have O596 := O582.keep K593 (allS ge581 all0)
        refine g_astore C X592 at_92 (q := 94) rfl rfl (L' := #[.val (.int p0), .val (.int p1), .val (.int p2), .val (.int p3), .val (.int (2 : Int32)), .val (.ref b7), .val (.ref b37), .val (.ref a_NOT_FOUND), .val (.ref b572), .unset, .unset, .unset, .unset, .unset, .unset]) rfl ?_
        refine g_newU C X592 (w34 hw) (w35 hw) (w36 hw) at_94 (q := 97) rfl (k' := 6) rfl (n' := 2774) rfl (by decide) (by decide) ?_
        intro T598 h599 b597 g601 X600 E602 A603 D604 U605
        have ge606 : n0 ≤ b597 := own_ge O596 g601
        have O607 := O596.ext E602
        have f608 : Fld Z h599 b597 "java/lang/Throwable" "cause" "Ljava/lang/Throwable;" .null := D604 (Or.inl (w57 hw)) (ty := (.object "java/lang/Throwable")) (by decide)
        have f609 : Fld Z h599 b597 "java/lang/Throwable" "stackTrace" "[Ljava/lang/StackTraceElement;" .null := D604 (Or.inl (w60 hw)) (ty := (.array (.object "java/lang/StackTraceElement"))) (by decide)
        have f610 : Fld Z h599 b597 "java/lang/Throwable" "suppressedExceptions" "Ljava/util/List;" .null := D604 (Or.inl (w63 hw)) (ty := (.object "java/util/List")) (by decide)
        have f611 : Fld Z h599 b597 "java/lang/Throwable" "detailMessage" "Ljava/lang/String;" .null := D604 (Or.inl (w87 hw)) (ty := (.object "java/lang/String")) (by decide)
        have f612 : Fld Z h599 b597 "java/lang/Throwable" "backtrace" "Ljava/lang/Object;" .null := D604 (Or.inl (w88 hw)) (ty := (.object "java/lang/Object")) (by decide)
        have f613 : Fld Z h599 b597 "java/lang/Throwable" "depth" "I" (.int (0 : Int32)) := D604 (Or.inl (w89 hw)) (ty := .int) (by decide)
        have f614 : Fld Z h599 b597 "com/example/jetway/jetway/FetchException" "kind" "Lcom/example/jetway/jetway/FetchException$Kind;" .null := D604 (Or.inr (w93 hw)) (ty := (.object "com/example/jetway/jetway/FetchException$Kind")) (by decide)
        refine g_dup C X600 at_97 (q := 98) rfl rfl ?_
        refine g_aload C X600 at_98 (q := 100) rfl rfl rfl ?_
        refine g_aload C X600 at_100 (q := 102) rfl rfl rfl ?_
        refine g_aload C X600 at_102 (q := 104) rfl rfl rfl ?_
        refine g_callIK0 C X600 hTK hBL (y := (⟨"com/example/jetway/jetway/FetchException", "<init>", "(Ljava/lang/String;Ljava/lang/Throwable;Lcom/example/jetway/jetway/FetchException$Kind;)V"⟩ : MethodName)) (a := b597) (by decide) rfl (w94 hw) (w42 hw) (w43 hw) (w36 hw) (rm_i3 hw (o1 := b37) (cv := (.ref b572)) (kk := a_NOT_FOUND) O607 W hl (ThS.ext E602 (ThS.keep K593 (List.forall_mem_cons.mpr ⟨Exa.nostat A578, (fun _ z => nomatch z)⟩) (ThS.ext E577 (ThS.keep K54 (List.forall_mem_cons.mpr ⟨Exa.nostat A43, (fun _ z => nomatch z)⟩) (ThS.ext E42 (ThS.wr W34 (ThS.wr W25 (ThS.ext E13 TH)))))))) A603 U605 f612 f611 f614 ge606 rfl) (W := 1) (by decide) (by decide) (k' := 7) rfl (n' := 5526) rfl (by decide) (by decide) rfl pd_21 (argsL := [(.ref b37), (.ref b572), (.ref a_NOT_FOUND)]) rfl (rest := [(.ref b597)]) rfl rfl rfl at_104 (q := 107) rfl ?_
        rintro T615 h616 X617 ⟨K618, E619, F620⟩
        have O621 := O607.keep K618 (allS ge606 all0)
        refine g_astore C X617 at_107 (q := 109) rfl rfl (L' := #[.val (.int p0), .val (.int p1), .val (.int p2), .val (.int p3), .val (.int (2 : Int32)), .val (.ref b7), .val (.ref b37), .val (.ref a_NOT_FOUND), .val (.ref b572), .val (.ref b597), .unset, .unset, .unset, .unset, .unset]) rfl ?_
        refine g_newU C X617 (w34 hw) (w35 hw) (w36 hw) at_109 (q := 112) rfl (k' := 8) rfl (n' := 5533) rfl (by decide) (by decide) ?_
        intro T623 h624 b622 g626 X625 E627 A628 D629 U630
        have ge631 : n0 ≤ b622 := own_ge O621 g626
        have O632 := O621.ext E627
        have f633 : Fld Z h624 b622 "java/lang/Throwable" "cause" "Ljava/lang/Throwable;" .null := D629 (Or.inl (w57 hw)) (ty := (.object "java/lang/Throwable")) (by decide)
        have f634 : Fld Z h624 b622 "java/lang/Throwable" "stackTrace" "[Ljava/lang/StackTraceElement;" .null := D629 (Or.inl (w60 hw)) (ty := (.array (.object "java/lang/StackTraceElement"))) (by decide)
        have f635 : Fld Z h624 b622 "java/lang/Throwable" "suppressedExceptions" "Ljava/util/List;" .null := D629 (Or.inl (w63 hw)) (ty := (.object "java/util/List")) (by decide)
        have f636 : Fld Z h624 b622 "java/lang/Throwable" "detailMessage" "Ljava/lang/String;" .null := D629 (Or.inl (w87 hw)) (ty := (.object "java/lang/String")) (by decide)
        have f637 : Fld Z h624 b622 "java/lang/Throwable" "backtrace" "Ljava/lang/Object;" .null := D629 (Or.inl (w88 hw)) (ty := (.object "java/lang/Object")) (by decide)
        have f638 : Fld Z h624 b622 "java/lang/Throwable" "depth" "I" (.int (0 : Int32)) := D629 (Or.inl (w89 hw)) (ty := .int) (by decide)
        have f639 : Fld Z h624 b622 "com/example/jetway/jetway/FetchException" "kind" "Lcom/example/jetway/jetway/FetchException$Kind;" .null := D629 (Or.inr (w93 hw)) (ty := (.object "com/example/jetway/jetway/FetchException$Kind")) (by decide)
        refine g_dup C X625 at_112 (q := 113) rfl rfl ?_
        refine g_aload C X625 at_113 (q := 115) rfl rfl rfl ?_
        refine g_callIK0 C X625 hTK hBL (y := (⟨"com/example/jetway/jetway/FetchException", "<init>", "(Ljava/lang/String;)V"⟩ : MethodName)) (a := b622) (by decide) rfl (w37 hw) (w38 hw) (w39 hw) (w36 hw) (rm_i1 hw (o1 := b37) O632 W hl (ThS.ext E627 (ThS.keep K618 (List.forall_mem_cons.mpr ⟨Exa.nostat A603, (fun _ z => nomatch z)⟩) (ThS.ext E602 (ThS.keep K593 (List.forall_mem_cons.mpr ⟨Exa.nostat A578, (fun _ z => nomatch z)⟩) (ThS.ext E577 (ThS.keep K54 (List.forall_mem_cons.mpr ⟨Exa.nostat A43, (fun _ z => nomatch z)⟩) (ThS.ext E42 (ThS.wr W34 (ThS.wr W25 (ThS.ext E13 TH)))))))))) A628 U630 f637 f636 f639 ge631) (W := 1) (by decide) (by decide) (k' := 9) rfl (n' := 8285) rfl (by decide) (by decide) rfl pd_29 (argsL := [(.ref b37)]) rfl (rest := [(.ref b622)]) rfl rfl rfl at_115 (q := 118) rfl ?_
        rintro T640 h641 X642 ⟨K643, E644, F645⟩
        have O646 := O632.keep K643 (allS ge631 all0)
        refine g_astore C X642 at_118 (q := 120) rfl rfl (L' := #[.val (.int p0), .val (.int p1), .val (.int p2), .val (.int p3), .val (.int (2 : Int32)), .val (.ref b7), .val (.ref b37), .val (.ref a_NOT_FOUND), .val (.ref b572), .val (.ref b597), .val (.ref b622), .unset, .unset, .unset, .unset]) rfl ?_
        refine g_newU C X642 (w34 hw) (w35 hw) (w36 hw) at_120 (q := 123) rfl (k' := 10) rfl (n' := 8292) rfl (by decide) (by decide) ?_
        intro T648 h649 b647 g651 X650 E652 A653 D654 U655
        have ge656 : n0 ≤ b647 := own_ge O646 g651
        have O657 := O646.ext E652
        have f658 : Fld Z h649 b647 "java/lang/Throwable" "cause" "Ljava/lang/Throwable;" .null := D654 (Or.inl (w57 hw)) (ty := (.object "java/lang/Throwable")) (by decide)
        have f659 : Fld Z h649 b647 "java/lang/Throwable" "stackTrace" "[Ljava/lang/StackTraceElement;" .null := D654 (Or.inl (w60 hw)) (ty := (.array (.object "java/lang/StackTraceElement"))) (by decide)
        have f660 : Fld Z h649 b647 "java/lang/Throwable" "suppressedExceptions" "Ljava/util/List;" .null := D654 (Or.inl (w63 hw)) (ty := (.object "java/util/List")) (by decide)
        have f661 : Fld Z h649 b647 "java/lang/Throwable" "detailMessage" "Ljava/lang/String;" .null := D654 (Or.inl (w87 hw)) (ty := (.object "java/lang/String")) (by decide)
        have f662 : Fld Z h649 b647 "java/lang/Throwable" "backtrace" "Ljava/lang/Object;" .null := D654 (Or.inl (w88 hw)) (ty := (.object "java/lang/Object")) (by decide)
        have f663 : Fld Z h649 b647 "java/lang/Throwable" "depth" "I" (.int (0 : Int32)) := D654 (Or.inl (w89 hw)) (ty := .int) (by decide)
        have f664 : Fld Z h649 b647 "com/example/jetway/jetway/FetchException" "kind" "Lcom/example/jetway/jetway/FetchException$Kind;" .null := D654 (Or.inr (w93 hw)) (ty := (.object "com/example/jetway/jetway/FetchException$Kind")) (by decide)
        refine g_dup C X650 at_123 (q := 124) rfl rfl ?_
        refine g_aload C X650 at_124 (q := 126) rfl rfl rfl ?_
        refine g_aload C X650 at_126 (q := 128) rfl rfl rfl ?_
        refine g_callIK0 C X650 hTK hBL (y := (⟨"com/example/jetway/jetway/FetchException", "<init>", "(Ljava/lang/String;Ljava/lang/Throwable;)V"⟩ : MethodName)) (a := b647) (by decide) rfl (w95 hw) (w96 hw) (w97 hw) (w36 hw) (rm_i2 hw (o1 := b37) (cv := (.ref b572)) O657 W hl (ThS.ext E652 (ThS.keep K643 (List.forall_mem_cons.mpr ⟨Exa.nostat A628, (fun _ z => nomatch z)⟩) (ThS.ext E627 (ThS.keep K618 (List.forall_mem_cons.mpr ⟨Exa.nostat A603, (fun _ z => nomatch z)⟩) (ThS.ext E602 (ThS.keep K593 (List.forall_mem_cons.mpr ⟨Exa.nostat A578, (fun _ z => nomatch z)⟩) (ThS.ext E577 (ThS.keep K54 (List.forall_mem_cons.mpr ⟨Exa.nostat A43, (fun _ z => nomatch z)⟩) (ThS.ext E42 (ThS.wr W34 (ThS.wr W25 (ThS.ext E13 TH)))))))))))) A653 U655 f662 f661 f664 ge656 rfl) (W := 1) (by decide) (by decide) (k' := 11) rfl (n' := 11044) rfl (by decide) (by decide) rfl pd_4 (argsL := [(.ref b37), (.ref b572)]) rfl (rest := [(.ref b647)]) rfl rfl rfl at_128 (q := 131) rfl ?_
        rintro T665 h666 X667 ⟨K668, E669, F670⟩
        have O671 := O657.keep K668 (allS ge656 all0)
        refine g_astore C X667 at_131 (q := 133) rfl rfl (L' := #[.val (.int p0), .val (.int p1), .val (.int p2), .val (.int p3), .val (.int (2 : Int32)), .val (.ref b7), .val (.ref b37), .val (.ref a_NOT_FOUND), .val (.ref b572), .val (.ref b597), .val (.ref b622), .val (.ref b647), .unset, .unset, .unset]) rfl ?_
        refine g_iload C X667 at_133 (q := 135) rfl rfl ?_
        refine g_iconst C X667 at_135 (q := 136) rfl (z := (2 : Int32)) rfl ?_
        refine g_icN C X667 at_136 (q := 139) rfl (by decide) ?_
        refine g_iconst C X667 at_139 (q := 140) rfl (z := (1 : Int32)) rfl ?_
        refine g_goto C X667 at_140 (by decide) (q := 144) (by decide) ?_
        refine g_istore C X667 at_144 (q := 146) rfl (L' := #[.val (.int p0), .val (.int p1), .val (.int p2), .val (.int p3), .val (.int (2 : Int32)), .val (.ref b7), .val (.ref b37), .val (.ref a_NOT_FOUND), .val (.ref b572), .val (.ref b597), .val (.ref b622), .val (.ref b647), .val (.int (1 : Int32)), .unset, .unset]) rfl ?_
        refine g_aload C X667 at_146 (q := 148) rfl rfl rfl ?_
        have f672 := ((((E619.ext E627).keep K643).ext E652).keep K668)
        have f673 := ((((F620.ext E627).keep K643 (ninS (own_ne (Nat.lt_of_lt_of_le A603.lt K618.1) g626) nin0)).ext E652).keep K668 (ninS (own_ne (Nat.lt_of_lt_of_le A603.lt (Nat.le_trans (Nat.le_trans K618.1 E627.1) K643.1)) g651) nin0))
        refine g_callV1 C X667 (y := (⟨"com/example/jetway/jetway/FetchException", "notFound", "()Z"⟩ : MethodName)) (z := (⟨"com/example/jetway/jetway/FetchException", "notFound", "()Z"⟩ : MethodName)) (a := b597) (by decide) (w98 hw) (w99 hw) (w101 hw) (w100 hw) (nf_sel (w101 hw)) f672 (w102 hw) (w36 hw) (rm_notFound_2 hw (o0 := b597) O671 W f672 f673 ge606) (W := 0) (by decide) (by decide) (k' := 11) rfl (n' := 11044) rfl (by decide) (by decide) rfl pd_36 (argsL := []) rfl (rest := []) rfl rfl rfl at_148 (q := 151) rfl ?_
        rintro _ T674 _ X675 ⟨rfl, rfl⟩
        refine g_istore C X675 at_151 (q := 153) rfl (L' := #[.val (.int p0), .val (.int p1), .val (.int p2), .val (.int p3), .val (.int (2 : Int32)), .val (.ref b7), .val (.ref b37), .val (.ref a_NOT_FOUND), .val (.ref b572), .val (.ref b597), .val (.ref b622), .val (.ref b647), .val (.int (1 : Int32)), .val (.int (1 : Int32)), .unset]) rfl ?_
        refine g_aload C X675 at_153 (q := 155) rfl rfl rfl ?_
        refine g_callV1 C X675 (y := (⟨"com/example/jetway/jetway/FetchException", "unreachable", "()Z"⟩ : MethodName)) (z := (⟨"com/example/jetway/jetway/FetchException", "unreachable", "()Z"⟩ : MethodName)) (a := b597) (by decide) (w105 hw) (w106 hw) (w108 hw) (w107 hw) (nf_sel (w108 hw)) f672 (w109 hw) (w36 hw) (rm_unreachable_2 hw (o0 := b597) O671 W f672 f673 ge606) (W := 0) (by decide) (by decide) (k' := 11) rfl (n' := 11044) rfl (by decide) (by decide) rfl pd_36 (argsL := []) rfl (rest := []) rfl rfl rfl at_155 (q := 158) rfl ?_
        rintro _ T676 _ X677 ⟨rfl, rfl⟩
        refine g_istore C X677 at_158 (q := 160) rfl (L' := #[.val (.int p0), .val (.int p1), .val (.int p2), .val (.int p3), .val (.int (2 : Int32)), .val (.ref b7), .val (.ref b37), .val (.ref a_NOT_FOUND), .val (.ref b572), .val (.ref b597), .val (.ref b622), .val (.ref b647), .val (.int (1 : Int32)), .val (.int (1 : Int32)), .val (.int (0 : Int32))]) rfl ?_
        refine g_iload C X677 at_160 (q := 162) rfl rfl ?_
        refine g_iload C X677 at_162 (q := 164) rfl rfl ?_
        refine g_icN C X677 at_164 (q := 167) rfl (by decide) ?_
        refine g_aload C X677 at_167 (q := 169) rfl rfl rfl ?_
        have f678 := ((E644.ext E652).keep K668)
        have f679 := ((F645.ext E652).keep K668 (ninS (own_ne (Nat.lt_of_lt_of_le A628.lt K643.1) g651) nin0))
        refine g_callV1 C X677 (y := (⟨"com/example/jetway/jetway/FetchException", "notFound", "()Z"⟩ : MethodName)) (z := (⟨"com/example/jetway/jetway/FetchException", "notFound", "()Z"⟩ : MethodName)) (a := b622) (by decide) (w98 hw) (w99 hw) (w101 hw) (w100 hw) (nf_sel (w101 hw)) f678 (w102 hw) (w36 hw) (rm_notFound_0 hw (o0 := b622) O671 W f678 f679 ge631) (W := 0) (by decide) (by decide) (k' := 11) rfl (n' := 11044) rfl (by decide) (by decide) rfl pd_36 (argsL := []) rfl (rest := []) rfl rfl rfl at_169 (q := 172) rfl ?_
        rintro _ T680 _ X681 ⟨rfl, rfl⟩
        refine g_ifN C X681 at_172 (q := 175) rfl (by decide) ?_
        refine g_aload C X681 at_175 (q := 177) rfl rfl rfl ?_
        refine g_callV1 C X681 (y := (⟨"com/example/jetway/jetway/FetchException", "notFound", "()Z"⟩ : MethodName)) (z := (⟨"com/example/jetway/jetway/FetchException", "notFound", "()Z"⟩ : MethodName)) (a := b647) (by decide) (w98 hw) (w99 hw) (w101 hw) (w100 hw) (nf_sel (w101 hw)) E669 (w102 hw) (w36 hw) (rm_notFound_0 hw (o0 := b647) O671 W E669 F670 ge656) (W := 0) (by decide) (by decide) (k' := 11) rfl (n' := 11044) rfl (by decide) (by decide) rfl pd_36 (argsL := []) rfl (rest := []) rfl rfl rfl at_177 (q := 180) rfl ?_
        rintro _ T682 _ X683 ⟨rfl, rfl⟩
        refine g_ifN C X683 at_180 (q := 183) rfl (by decide) ?_
        refine g_iload C X683 at_183 (q := 185) rfl rfl ?_
        refine g_ifN C X683 at_185 (q := 188) rfl (by decide) ?_
        refine g_iload C X683 at_188 (q := 190) rfl rfl ?_
        refine g_ifN C X683 at_190 (q := 193) rfl (by decide) ?_
        refine g_iconst C X683 at_193 (q := 194) rfl (z := (1 : Int32)) rfl ?_
        refine g_goto C X683 at_194 (by decide) (q := 198) (by decide) ?_
        exact g_retN C X683 (Or.inl rfl) (z' := 1) (by decide) at_198 (by decide) (by decide) ⟨_, rfl, rfl, trivial⟩
set_option maxRecDepth 65536 in
set_option maxHeartbeats 40000000 in
theorem comes_1 {Post : Tables → Env → Array Value → State → Outcome → State → Prop} (hpost : ∀ tb e args s v u, (limb_1_1.after args s (.returned v) u = true ∧ limb_1_2.after args s (.returned v) u = true ∧ True) → FrameEnd s (.returned v) u (Jvm.fieldLocs frame_1_writes args s ++ Jvm.arrayLocs frame_1_arrays args s ++ Jvm.staticLocs frame_1_statics s) 32 22208 → Post tb e args s (.returned v) u) :
    ArmFor flags0 classFile x code maxLocals ret World_1 tables_1 room_1 Calls_1 rest_1 Pre_1 Post := by
  intro l hfl _ _ p e ha hc hk s m args below hf hA hF happ hP
  obtain ⟨hcalls, hrest, hpre⟩ := hP
  obtain ⟨-, -, -, hnamed, -, -, -, hat⟩ := (Spec.applies_iff hf).mp happ
  obtain ⟨hg, hn⟩ := and_e (Cond.before_iff.mp (show (Jvm.Cond.and given_1 narrow_1).before args s = true from hpre))
  obtain ⟨y1, y2⟩ := and_e hg
  obtain ⟨y3, y4⟩ := and_e y2
  obtain ⟨y5, y6⟩ := and_e y4
  obtain ⟨y7, y8⟩ := and_e y6
  obtain ⟨u0, u1, u2, u3, rfl⟩ : ∃ u0 u1 u2 u3 : Value, args = #[u0, u1, u2, u3] := by
    have hs : args.size = 4 := by simpa [Cond.value, given_1] using y1
    obtain ⟨L⟩ := args
    match L, hs with
    | [u0, u1, u2, u3], _ => exact ⟨u0, u1, u2, u3, rfl⟩
  have hw := fun d (hd : d ∈ tables_1) => atoms_spec (ws := Jvm.Cond.code x code maxLocals ret :: tables_1) hat d (List.mem_cons_of_mem _ hd)
  have hfit : Fit s := fun {y c} hc i hi => by
    obtain ⟨ha, rfl⟩ := Array.getElem?_eq_some_iff.mp hc
    have q := List.all_eq_true.mp ((Array.all_eq_true_iff_forall_mem.mp hF) _ (Array.getElem_mem ha)) i (List.mem_range.mpr hi)
    simpa [Array.getElem?_eq_getElem hi] using q
  obtain ⟨hsets, hown0⟩ := atoms_of _ (rest_1_c_eq ▸ (show rest_1_c.before _ s = true from hrest))
  have hr0 := Cond.before_iff.mp hown0
  obtain ⟨i0, ei0⟩ := is_v y3
  obtain rfl : u0 = (.int i0) := Option.some.inj ei0
  obtain ⟨i1, ei1⟩ := is_v y5
  obtain rfl : u1 = (.int i1) := Option.some.inj ei1
  obtain ⟨i2, ei2⟩ := is_v y7
  obtain rfl : u2 = (.int i2) := Option.some.inj ei2
  obtain ⟨i3, ei3⟩ := is_v y8
  obtain rfl : u3 = (.int i3) := Option.some.inj ei3
  obtain ⟨y1, y2⟩ := and_e hn
  obtain ⟨o3, ev4, S5, E6⟩ := own_sta y1 (Or.inr ⟨(w32 hw), (w33 hw)⟩)
  obtain ⟨y7, y8⟩ := and_e y2
  obtain ⟨o9, ev10, S11, E12⟩ := own_sta y7 (Or.inr ⟨(w32 hw), (w104 hw)⟩)
  obtain ⟨y13, y14⟩ := and_e y8
  have F15 := own_fldI ev4 y13
  obtain ⟨y16, y17⟩ := and_e y14
  have F18 := own_fldI ev10 y16
  obtain ⟨y19, y20⟩ := and_e y17
  obtain ⟨o21, ev22, S23, E24⟩ := own_sta y19 (Or.inr ⟨(w32 hw), (w111 hw)⟩)
  have F25 := own_fldI ev22 y20
  obtain ⟨cz, ecz⟩ := is_v (Cond.before_iff.mp (hsets _ (List.mem_of_getElem? (i := 1) rfl)))
  have SCz : Sta s s.heap "java/lang/String" "COMPACT_STRINGS" "Z" (.int cz) := Sta.start ecz (Or.inl (hsets _ (List.mem_of_getElem? (i := 0) rfl)))
  have hcz : ¬ cz = 0 := gotF (Cond.eq_ints ecz (Term.int_eval (0))) (not_v (Cond.before_iff.mp (hsets _ (List.mem_of_getElem? (i := 2) rfl))))
  obtain ⟨uS, euS, huS⟩ := isR_v (Cond.before_iff.mp (hsets _ (List.mem_of_getElem? (i := 16) rfl)))
  have SuS : Sta s s.heap "java/lang/Throwable" "UNASSIGNED_STACK" "[Ljava/lang/StackTraceElement;" uS := Sta.start euS (Or.inl (hsets _ (List.mem_of_getElem? (i := 15) rfl)))
  obtain ⟨sN, esN, hsN⟩ := isR_v (Cond.before_iff.mp (hsets _ (List.mem_of_getElem? (i := 21) rfl)))
  have SsN : Sta s s.heap "java/lang/Throwable" "SUPPRESSED_SENTINEL" "Ljava/util/List;" sN := Sta.start esN (Or.inl (hsets _ (List.mem_of_getElem? (i := 20) rfl)))
  have hl : l.stackTraces = true := by unfold Launch.stackTraces; rw [hfl]; decide +kernel
  have hM := rmLaw (l := l) hw (p0 := i0) (p1 := i1) (p2 := i2) (p3 := i3) (Old.start s) (show Wd s o3 o9 o21 cz uS sN from ⟨S5, E6, S11, E12, F15, F18, S23, E24, F25, SCz, hcz, SuS, huS, SsN, hsN⟩) hl ThS.start
  obtain ⟨n, o, h1, h2, h3, _, L, rfl, ⟨N, _, rfl, rfl, -⟩, hq⟩ := hM tables_1 p e ha hc hk s m _ below hf ((Spec.applies_iff_loose hf).mp happ).1 ⟨rfl, State.Warmed39.refl s, rfl⟩ ⟨MethodsKnown_of_tablesKnown hcalls.2.1, FramesKnown_of_framesKnown hcalls.1 hf⟩
  refine ⟨n, _, h1, h2, h3, hpost _ _ _ _ _ _ ⟨Cond.after_iff.mpr rfl, Cond.after_iff.mpr (eq_i res_at (Term.int_eval (1)) rfl), trivial⟩ ⟨hq.1, hq.2.1, (hq.2.2.sift fun y hy => Or.inr (N y hy)).mono (by decide) (by decide)⟩⟩
theorem main_1_1 : Claimed_1_1 := comes_1 fun _ _ _ _ _ _ h hF => ⟨h.1, hF⟩
theorem main_1_2 : Claimed_1_2 := comes_1 fun _ _ _ _ _ _ h hF => ⟨h.2.1, hF⟩
end Jvm.Pilot.@@N@@
namespace Jvm.Pilot.@@N@@
open Jvm Jvm.ClassFile Sem Op Lib Jvm.Free Jvm.Stand Jvm.Pilot.@@N@@.Jvm.D
/-! MADE BY PROGRAM (witnessworld.py) out of the Statement's table words and the real class files: 37 classes; the members and pool entries that the words name. The judged class is class 1, her method 1. -/
namespace start1
open Jvm.ClassFile
def u (s : String) : CpInfo := .utf8 (stringToUtf16 s)
/-- a pool by its gaps: so many unusable entries, then the entry; so many at the end -/
def gap : Nat → List CpInfo → List CpInfo
  | 0, r => r
  | n + 1, r => .unusable :: gap n r
def poolList (es : List (Nat × CpInfo)) (last : Nat) : List CpInfo := es.foldr (fun e r => gap e.1 (e.2 :: r)) (gap last [])
def pool (es : List (Nat × CpInfo)) (last : Nat) : Array CpInfo := ⟨poolList es last⟩
def fileOf (pool : Array CpInfo) (this : Nat) (attrs : Array Attribute := #[]) (ms : Array MethodInfo := #[]) (fl : Nat := 33) (sup : Nat := 0) (ifs : Array Nat := #[]) (fds : Array FieldInfo := #[]) : ClassFile where
  minorVersion := 0
  majorVersion := 65
  constantPool := pool
  accessFlags := fl
  thisClass := this
  superClass := sup
  interfaces := ifs
  fields := fds
  methods := ms
  attributes := attrs
def plain (name : String) (sup : Option ClassId) : Class where
  name := name
  kind := .ordinary
  loader := none
  accessFlags := 33
  super := sup
  interfaces := #[]
  cf := none
  fields := #[]
  methods := #[]
  instanceTypes := #[]
  staticTypes := #[]
  resolved := #[]
  callSites := []
  init := .initialized
  statics := none
  mirror := none

def pool0 : Array CpInfo := pool [(5, u "<init>"), (0, u "()V"), (1, .class_ 10), (1, u "java/lang/Object")] 113

def k0c0 : Code := { maxStack := 0, maxLocals := 1, code := object_method_1_code, exceptionTable := #[], attributes := #[] }
def k0m0 : Method := { name := "<init>", desc := "()V", sig := { parameters := [], returnType := none }, accessFlags := 1, code := some k0c0 }
/-- java/lang/Object -/
def k0 : Class := { plain "java/lang/Object" none with
  accessFlags := 33
  interfaces := #[]
  cf := some (fileOf pool0 8 #[] #[{ accessFlags := 1, nameIndex := 5, descriptorIndex := 6, attributes := #[] }] 33 0 #[] #[])
  fields := #[]
  methods := #[k0m0]
  instanceTypes := #[]
  staticTypes := #[]
  resolved := Array.replicate 124 none
  statics := none }

def pool1 : Array CpInfo := pool [(2, .class_ 4), (1, u "java/lang/Object"), (0, u "<init>"), (0, u "()V"), (0, .integer 2147483647), (0, .class_ 9), (0, u "java/lang/String"), (0, .methodref 8 11), (0, .nameAndType 5 12), (0, u "([C)V"), (0, .fieldref 14 15), (0, .class_ 16), (0, .nameAndType 17 18), (0, u "com/example/jetway/jetway/FetchException$Kind"), (0, u "FAILED"), (0, u "Lcom/example/jetway/jetway/FetchException$Kind;"), (0, .fieldref 14 20), (0, .nameAndType 21 18), (0, u "UNREACHABLE"), (0, .fieldref 14 23), (0, .nameAndType 24 18), (0, u "NOT_FOUND"), (0, .class_ 26), (0, u "com/example/jetway/jetway/FetchException"), (0, .methodref 25 28), (0, .nameAndType 5 29), (0, u "(Ljava/lang/String;)V"), (0, .methodref 25 31), (0, .nameAndType 5 32), (0, u "(Ljava/lang/String;Ljava/lang/Throwable;Lcom/example/jetway/jetway/FetchException$Kind;)V"), (0, .methodref 25 34), (0, .nameAndType 5 35), (0, u "(Ljava/lang/String;Ljava/lang/Throwable;)V"), (0, .methodref 25 37), (0, .nameAndType 38 39), (0, u "notFound"), (0, u "()Z"), (0, .methodref 25 41), (0, .nameAndType 42 39), (0, u "unreachable"), (0, .class_ 44), (0, u "com/example/jetway/jetway/FetchExceptionNotFoundPinLaw"), (2, u "law"), (0, u "(IIII)Z")] 9

def k1m0 : Method := { name := "<init>", desc := "()V", sig := { parameters := [], returnType := none }, accessFlags := 1, code := none }
def k1c1 : Code := { maxStack := 5, maxLocals := 15, code := code, exceptionTable := #[], attributes := #[] }
def k1m1 : Method := { name := "law", desc := "(IIII)Z", sig := { parameters := [.int, .int, .int, .int], returnType := some .boolean }, accessFlags := 9, code := some k1c1 }
/-- com/example/jetway/jetway/FetchExceptionNotFoundPinLaw -/
def k1 : Class := { plain "com/example/jetway/jetway/FetchExceptionNotFoundPinLaw" (some 0) with
  accessFlags := 49
  interfaces := #[]
  cf := some (fileOf pool1 43 #[] #[{ accessFlags := 1, nameIndex := 5, descriptorIndex := 6, attributes := #[] }, { accessFlags := 9, nameIndex := 47, descriptorIndex := 48, attributes := #[] }] 49 2 #[] #[])
  fields := #[]
  methods := #[k1m0, k1m1]
  instanceTypes := #[]
  staticTypes := #[]
  resolved := Array.replicate 58 none
  statics := none }

def pool2 : Array CpInfo := pool [(1, .class_ 2), (0, u "java/io/Serializable"), (0, .class_ 4), (0, u "java/lang/Object")] 2

/-- java/io/Serializable -/
def k2 : Class := { plain "java/io/Serializable" (some 0) with
  accessFlags := 1537
  interfaces := #[]
  cf := some (fileOf pool2 1 #[] #[] 1537 3 #[] #[])
  fields := #[]
  methods := #[]
  instanceTypes := #[]
  staticTypes := #[]
  resolved := Array.replicate 7 none
  statics := none }

def pool3 : Array CpInfo := pool [(1, .class_ 2), (0, u "java/lang/Comparable"), (0, .class_ 4), (0, u "java/lang/Object")] 7

/-- java/lang/Comparable -/
def k3 : Class := { plain "java/lang/Comparable" (some 0) with
  accessFlags := 1537
  interfaces := #[]
  cf := some (fileOf pool3 1 #[] #[] 1537 3 #[] #[])
  fields := #[]
  methods := #[]
  instanceTypes := #[]
  staticTypes := #[]
  resolved := Array.replicate 12 none
  statics := none }

def pool4 : Array CpInfo := pool [(2, .class_ 4), (1, u "java/lang/CharSequence"), (42, .class_ 48), (0, u "java/lang/CharSequence$1CodePointIterator"), (10, .class_ 60), (0, u "java/lang/CharSequence$1CharIterator"), (5, .class_ 67), (0, u "java/lang/Object")] 63

/-- java/lang/CharSequence -/
def k4 : Class := { plain "java/lang/CharSequence" (some 0) with
  accessFlags := 1537
  interfaces := #[]
  cf := some (fileOf pool4 2 #[.nestMembers #[47, 59]] #[] 1537 66 #[] #[])
  fields := #[]
  methods := #[]
  instanceTypes := #[]
  staticTypes := #[]
  resolved := Array.replicate 131 none
  statics := none }

def pool5 : Array CpInfo := pool [(1, .class_ 2), (0, u "java/lang/constant/Constable"), (0, .class_ 4), (0, u "java/lang/Object")] 6

/-- java/lang/constant/Constable -/
def k5 : Class := { plain "java/lang/constant/Constable" (some 0) with
  accessFlags := 1537
  interfaces := #[]
  cf := some (fileOf pool5 1 #[] #[] 1537 3 #[] #[])
  fields := #[]
  methods := #[]
  instanceTypes := #[]
  staticTypes := #[]
  resolved := Array.replicate 11 none
  statics := none }

def pool6 : Array CpInfo := pool [(1, .class_ 2), (0, u "java/lang/constant/ConstantDesc"), (0, .class_ 4), (0, u "java/lang/Object")] 32

/-- java/lang/constant/ConstantDesc -/
def k6 : Class := { plain "java/lang/constant/ConstantDesc" (some 0) with
  accessFlags := 1537
  interfaces := #[]
  cf := some (fileOf pool6 1 #[] #[] 1537 3 #[] #[])
  fields := #[]
  methods := #[]
  instanceTypes := #[]
  staticTypes := #[]
  resolved := Array.replicate 37 none
  statics := none }

def pool7 : Array CpInfo := pool [(1, .methodref 2 3), (0, .class_ 4), (0, .nameAndType 5 6), (0, u "java/lang/Object"), (0, u "<init>"), (0, u "()V"), (2, .fieldref 10 11), (0, .class_ 12), (0, .nameAndType 13 14), (0, u "java/lang/String"), (0, u "value"), (0, u "[B"), (0, .fieldref 10 16), (0, .nameAndType 17 18), (0, u "coder"), (0, u "B"), (2, u "hash"), (0, u "I"), (2, u "hashIsZero"), (0, u "Z"), (0, .methodref 10 28), (0, .nameAndType 5 29), (0, u "([CIILjava/lang/Void;)V"), (8, .fieldref 10 39), (0, .nameAndType 40 26), (0, u "COMPACT_STRINGS"), (1, .class_ 44), (1, u "java/lang/StringUTF16"), (0, u "compress"), (1, .methodref 42 48), (0, .nameAndType 49 50), (0, u "coderFromArrayLen"), (0, u "([BI)B"), (126, .methodref 42 178), (0, .nameAndType 45 179), (0, u "([CII)[B"), (395, .class_ 576), (0, u "java/lang/CharSequence"), (22, u "CASE_INSENSITIVE_ORDER"), (0, u "Ljava/util/Comparator;"), (409, u "([C)V"), (90, u "serialPersistentFields"), (0, u "[Ljava/io/ObjectStreamField;"), (0, .class_ 1104), (0, u "java/lang/String$CaseInsensitiveComparator"), (1, .class_ 1107), (0, u "java/io/Serializable"), (0, .class_ 1109), (0, u "java/lang/Comparable"), (0, .class_ 1111), (0, u "java/lang/constant/Constable"), (0, .class_ 1113), (0, u "java/lang/constant/ConstantDesc"), (2, u "serialVersionUID"), (0, u "J"), (3, u "REPL"), (0, u "C"), (2, u "LATIN1"), (1, u "UTF16")] 323

def k7m0 : Method := { name := "<init>", desc := "()V", sig := { parameters := [], returnType := none }, accessFlags := 1, code := none }
def k7c1 : Code := { maxStack := 5, maxLocals := 2, code := jdk_42_method_3_code, exceptionTable := #[], attributes := #[] }
def k7m1 : Method := { name := "<init>", desc := "([C)V", sig := { parameters := [(.array .char)], returnType := none }, accessFlags := 1, code := some k7c1 }
def k7c2 : Code := { maxStack := 4, maxLocals := 6, code := jdk_42_method_149_code, exceptionTable := #[], attributes := #[] }
def k7m2 : Method := { name := "<init>", desc := "([CIILjava/lang/Void;)V", sig := { parameters := [(.array .char), .int, .int, (.object "java/lang/Void")], returnType := none }, accessFlags := 2, code := some k7c2 }
/-- java/lang/String -/
def k7 : Class := { plain "java/lang/String" (some 0) with
  accessFlags := 49
  interfaces := #[2, 3, 4, 5, 6]
  cf := some (fileOf pool7 10 #[.nestMembers #[1103]] #[{ accessFlags := 1, nameIndex := 5, descriptorIndex := 6, attributes := #[] }, { accessFlags := 1, nameIndex := 5, descriptorIndex := 1010, attributes := #[] }, { accessFlags := 2, nameIndex := 5, descriptorIndex := 29, attributes := #[] }] 49 2 #[1106, 1108, 575, 1110, 1112] #[{ accessFlags := 18, nameIndex := 13, descriptorIndex := 14, attributes := #[] }, { accessFlags := 18, nameIndex := 17, descriptorIndex := 18, attributes := #[] }, { accessFlags := 2, nameIndex := 21, descriptorIndex := 22, attributes := #[] }, { accessFlags := 2, nameIndex := 25, descriptorIndex := 26, attributes := #[] }, { accessFlags := 26, nameIndex := 1116, descriptorIndex := 1117, attributes := #[] }, { accessFlags := 24, nameIndex := 40, descriptorIndex := 26, attributes := #[] }, { accessFlags := 26, nameIndex := 1101, descriptorIndex := 1102, attributes := #[] }, { accessFlags := 26, nameIndex := 1121, descriptorIndex := 1122, attributes := #[] }, { accessFlags := 25, nameIndex := 599, descriptorIndex := 600, attributes := #[] }, { accessFlags := 24, nameIndex := 1125, descriptorIndex := 18, attributes := #[] }, { accessFlags := 24, nameIndex := 1127, descriptorIndex := 18, attributes := #[] }])
  fields := #[{ name := "value", type := (.array .byte), accessFlags := 18, slot := 0, constantValue := 0 }, { name := "coder", type := .byte, accessFlags := 18, slot := 1, constantValue := 0 }, { name := "hash", type := .int, accessFlags := 2, slot := 2, constantValue := 0 }, { name := "hashIsZero", type := .boolean, accessFlags := 2, slot := 3, constantValue := 0 }, { name := "serialVersionUID", type := .long, accessFlags := 26, slot := 0, constantValue := 0 }, { name := "COMPACT_STRINGS", type := .boolean, accessFlags := 24, slot := 1, constantValue := 0 }, { name := "serialPersistentFields", type := (.array (.object "java/io/ObjectStreamField")), accessFlags := 26, slot := 2, constantValue := 0 }, { name := "REPL", type := .char, accessFlags := 26, slot := 3, constantValue := 0 }, { name := "CASE_INSENSITIVE_ORDER", type := (.object "java/util/Comparator"), accessFlags := 25, slot := 4, constantValue := 0 }, { name := "LATIN1", type := .byte, accessFlags := 24, slot := 5, constantValue := 0 }, { name := "UTF16", type := .byte, accessFlags := 24, slot := 6, constantValue := 0 }]
  methods := #[k7m0, k7m1, k7m2]
  instanceTypes := #[(.array .byte), .byte, .int, .boolean]
  staticTypes := #[.long, .boolean, (.array (.object "java/io/ObjectStreamField")), .char, (.object "java/util/Comparator"), .byte, .byte]
  resolved := Array.replicate 1451 none
  statics := some 0 }

def pool8 : Array CpInfo := pool [(6, .class_ 8), (1, u "java/lang/Object"), (0, u "<init>"), (0, u "()V"), (1, .class_ 14), (1, u "java/lang/StringUTF16"), (31, u "$assertionsDisabled"), (0, u "Z"), (13, u "HI_BYTE_SHIFT"), (0, u "I"), (2, u "LO_BYTE_SHIFT"), (49, .methodref 12 116), (0, .nameAndType 117 118), (0, u "compress"), (0, u "([CI[BII)I"), (3, u "([CII)[B"), (138, u "coderFromArrayLen"), (0, u "([BI)B"), (106, .class_ 371), (1, u "java/lang/StringUTF16$LinesSpliterator"), (58, u "MAX_LENGTH"), (196, .class_ 628), (0, u "java/lang/StringUTF16$CodePointsSpliterator"), (0, .class_ 630), (0, u "java/lang/StringUTF16$CharsSpliterator")] 4

def k8m0 : Method := { name := "<init>", desc := "()V", sig := { parameters := [], returnType := none }, accessFlags := 0, code := none }
def k8c1 : Code := { maxStack := 2, maxLocals := 2, code := jdk_52_method_15_code, exceptionTable := #[], attributes := #[] }
def k8m1 : Method := { name := "coderFromArrayLen", desc := "([BI)B", sig := { parameters := [(.array .byte), .int], returnType := some .byte }, accessFlags := 8, code := some k8c1 }
def k8c2 : Code := { maxStack := 5, maxLocals := 6, code := jdk_52_method_16_code, exceptionTable := #[], attributes := #[] }
def k8m2 : Method := { name := "compress", desc := "([CII)[B", sig := { parameters := [(.array .char), .int, .int], returnType := some (.array .byte) }, accessFlags := 9, code := some k8c2 }
def k8c3 : Code := { maxStack := 3, maxLocals := 7, code := jdk_52_method_21_code, exceptionTable := #[], attributes := #[] }
def k8m3 : Method := { name := "compress", desc := "([CI[BII)I", sig := { parameters := [(.array .char), .int, (.array .byte), .int, .int], returnType := some .int }, accessFlags := 9, code := some k8c3 }
/-- java/lang/StringUTF16 -/
def k8 : Class := { plain "java/lang/StringUTF16" (some 0) with
  accessFlags := 48
  interfaces := #[]
  cf := some (fileOf pool8 12 #[.nestMembers #[627, 629, 369]] #[{ accessFlags := 0, nameIndex := 9, descriptorIndex := 10, attributes := #[] }, { accessFlags := 8, nameIndex := 261, descriptorIndex := 262, attributes := #[] }, { accessFlags := 9, nameIndex := 117, descriptorIndex := 122, attributes := #[] }, { accessFlags := 9, nameIndex := 117, descriptorIndex := 118, attributes := #[] }] 48 6 #[] #[{ accessFlags := 26, nameIndex := 61, descriptorIndex := 62, attributes := #[] }, { accessFlags := 26, nameIndex := 65, descriptorIndex := 62, attributes := #[] }, { accessFlags := 24, nameIndex := 430, descriptorIndex := 62, attributes := #[] }, { accessFlags := 4120, nameIndex := 46, descriptorIndex := 47, attributes := #[] }])
  fields := #[{ name := "HI_BYTE_SHIFT", type := .int, accessFlags := 26, slot := 0, constantValue := 0 }, { name := "LO_BYTE_SHIFT", type := .int, accessFlags := 26, slot := 1, constantValue := 0 }, { name := "MAX_LENGTH", type := .int, accessFlags := 24, slot := 2, constantValue := 0 }, { name := "$assertionsDisabled", type := .boolean, accessFlags := 4120, slot := 3, constantValue := 0 }]
  methods := #[k8m0, k8m1, k8m2, k8m3]
  instanceTypes := #[]
  staticTypes := #[.int, .int, .int, .boolean]
  resolved := Array.replicate 635 none
  statics := none }

def pool9 : Array CpInfo := pool [(2, .class_ 4), (1, u "java/lang/Enum"), (0, u "name"), (0, u "Ljava/lang/String;"), (2, u "ordinal"), (0, u "I"), (1, .class_ 14), (1, u "java/lang/Object"), (4, u "hash"), (86, .class_ 108), (1, u "java/lang/Enum$EnumDesc"), (2, .class_ 112), (0, u "java/lang/constant/Constable"), (0, .class_ 114), (0, u "java/lang/Comparable"), (0, .class_ 116), (0, u "java/io/Serializable")] 87

/-- java/lang/Enum -/
def k9 : Class := { plain "java/lang/Enum" (some 0) with
  accessFlags := 1057
  interfaces := #[5, 3, 2]
  cf := some (fileOf pool9 2 #[.nestMembers #[106]] #[] 1057 12 #[111, 113, 115] #[{ accessFlags := 18, nameIndex := 5, descriptorIndex := 6, attributes := #[] }, { accessFlags := 18, nameIndex := 9, descriptorIndex := 10, attributes := #[] }, { accessFlags := 2, nameIndex := 19, descriptorIndex := 10, attributes := #[] }])
  fields := #[{ name := "name", type := (.object "java/lang/String"), accessFlags := 18, slot := 0, constantValue := 0 }, { name := "ordinal", type := .int, accessFlags := 18, slot := 1, constantValue := 0 }, { name := "hash", type := .int, accessFlags := 2, slot := 2, constantValue := 0 }]
  methods := #[]
  instanceTypes := #[(.object "java/lang/String"), .int, .int]
  staticTypes := #[]
  resolved := Array.replicate 204 none
  statics := none }

def pool10 : Array CpInfo := pool [(1, .class_ 2), (0, u "com/example/jetway/jetway/FetchException$Kind"), (2, u "FAILED"), (0, u "Lcom/example/jetway/jetway/FetchException$Kind;"), (2, u "UNREACHABLE"), (2, u "NOT_FOUND"), (2, u "$VALUES"), (0, u "[Lcom/example/jetway/jetway/FetchException$Kind;"), (6, .class_ 25), (1, u "java/lang/Enum"), (26, .class_ 53), (0, u "com/example/jetway/jetway/FetchException")] 2

/-- com/example/jetway/jetway/FetchException$Kind -/
def k10 : Class := { plain "com/example/jetway/jetway/FetchException$Kind" (some 9) with
  accessFlags := 16432
  interfaces := #[]
  cf := some (fileOf pool10 1 #[.nestHost 52] #[] 16432 23 #[] #[{ accessFlags := 16409, nameIndex := 5, descriptorIndex := 6, attributes := #[] }, { accessFlags := 16409, nameIndex := 9, descriptorIndex := 6, attributes := #[] }, { accessFlags := 16409, nameIndex := 12, descriptorIndex := 6, attributes := #[] }, { accessFlags := 4122, nameIndex := 15, descriptorIndex := 16, attributes := #[] }])
  fields := #[{ name := "FAILED", type := (.object "com/example/jetway/jetway/FetchException$Kind"), accessFlags := 16409, slot := 0, constantValue := 0 }, { name := "UNREACHABLE", type := (.object "com/example/jetway/jetway/FetchException$Kind"), accessFlags := 16409, slot := 1, constantValue := 0 }, { name := "NOT_FOUND", type := (.object "com/example/jetway/jetway/FetchException$Kind"), accessFlags := 16409, slot := 2, constantValue := 0 }, { name := "$VALUES", type := (.array (.object "com/example/jetway/jetway/FetchException$Kind")), accessFlags := 4122, slot := 3, constantValue := 0 }]
  methods := #[]
  instanceTypes := #[(.object "java/lang/String"), .int, .int]
  staticTypes := #[(.object "com/example/jetway/jetway/FetchException$Kind"), (.object "com/example/jetway/jetway/FetchException$Kind"), (.object "com/example/jetway/jetway/FetchException$Kind"), (.array (.object "com/example/jetway/jetway/FetchException$Kind"))]
  resolved := Array.replicate 56 none
  statics := some 1 }

def pool11 : Array CpInfo := pool [(1, .methodref 2 3), (0, .class_ 4), (0, .nameAndType 5 6), (0, u "java/lang/Object"), (0, u "<init>"), (0, u "()V"), (0, .fieldref 8 9), (0, .class_ 10), (0, .nameAndType 11 12), (0, u "java/lang/Throwable"), (0, u "cause"), (0, u "Ljava/lang/Throwable;"), (0, .fieldref 8 14), (0, .nameAndType 15 16), (0, u "UNASSIGNED_STACK"), (0, u "[Ljava/lang/StackTraceElement;"), (0, .fieldref 8 18), (0, .nameAndType 19 16), (0, u "stackTrace"), (0, .fieldref 8 21), (0, .nameAndType 22 23), (0, u "SUPPRESSED_SENTINEL"), (0, u "Ljava/util/List;"), (0, .fieldref 8 25), (0, .nameAndType 26 23), (0, u "suppressedExceptions"), (0, .methodref 8 28), (0, .nameAndType 29 30), (0, u "fillInStackTrace"), (0, u "()Ljava/lang/Throwable;"), (0, .fieldref 8 32), (0, .nameAndType 33 34), (0, u "detailMessage"), (0, u "Ljava/lang/String;"), (28, u "(Ljava/lang/String;Ljava/lang/Throwable;)V"), (29, .class_ 94), (0, u "java/lang/Throwable$WrappedPrintStream"), (6, .class_ 103), (1, u "java/lang/Throwable$PrintStreamOrWriter"), (61, u "$assertionsDisabled"), (0, u "Z"), (26, .class_ 194), (0, u "java/lang/Throwable$WrappedPrintWriter"), (3, .fieldref 8 199), (0, .nameAndType 200 201), (0, u "backtrace"), (0, u "Ljava/lang/Object;"), (0, .methodref 8 203), (0, .nameAndType 29 204), (0, u "(I)Ljava/lang/Throwable;"), (6, u "depth"), (0, u "I"), (56, .class_ 271), (1, u "java/lang/Throwable$SentinelHolder"), (32, u "EMPTY_THROWABLE_ARRAY"), (0, u "[Ljava/lang/Throwable;"), (12, .class_ 319), (0, u "java/io/Serializable"), (0, u "serialVersionUID"), (0, u "J"), (5, u "NULL_CAUSE_MESSAGE"), (0, u "SELF_SUPPRESSION_MESSAGE"), (0, u "CAUSE_CAPTION"), (0, u "SUPPRESSED_CAPTION")] 73

def k11c0 : Code := { maxStack := 2, maxLocals := 1, code := jdk_78_method_1_code, exceptionTable := #[], attributes := #[] }
def k11m0 : Method := { name := "<init>", desc := "()V", sig := { parameters := [], returnType := none }, accessFlags := 1, code := some k11c0 }
def k11c1 : Code := { maxStack := 2, maxLocals := 3, code := jdk_78_method_3_code, exceptionTable := #[], attributes := #[] }
def k11m1 : Method := { name := "<init>", desc := "(Ljava/lang/String;Ljava/lang/Throwable;)V", sig := { parameters := [(.object "java/lang/String"), (.object "java/lang/Throwable")], returnType := none }, accessFlags := 1, code := some k11c1 }
def k11c2 : Code := { maxStack := 2, maxLocals := 1, code := ⟨#[0x2a, 0xb4, 0x00, 0x11, 0xc7, 0x00, 0x0a, 0x2a, 0xb4, 0x00, 0xc6, 0xc6, 0x00, 0x10, 0x2a, 0x03, 0xb6, 0x00, 0xca, 0x57, 0x2a, 0xb2, 0x00, 0x0d, 0xb5, 0x00, 0x11, 0x2a, 0xb0]⟩, exceptionTable := #[], attributes := #[] }
def k11m2 : Method := { name := "fillInStackTrace", desc := "()Ljava/lang/Throwable;", sig := { parameters := [], returnType := some (.object "java/lang/Throwable") }, accessFlags := 33, code := some k11c2 }
def k11m3 : Method := { name := "fillInStackTrace", desc := "(I)Ljava/lang/Throwable;", sig := { parameters := [.int], returnType := some (.object "java/lang/Throwable") }, accessFlags := 258, code := none }
/-- java/lang/Throwable -/
def k11 : Class := { plain "java/lang/Throwable" (some 0) with
  accessFlags := 33
  interfaces := #[2]
  cf := some (fileOf pool11 8 #[.nestMembers #[193, 93, 101, 269]] #[{ accessFlags := 1, nameIndex := 5, descriptorIndex := 6, attributes := #[] }, { accessFlags := 1, nameIndex := 5, descriptorIndex := 63, attributes := #[] }, { accessFlags := 33, nameIndex := 29, descriptorIndex := 30, attributes := #[] }, { accessFlags := 258, nameIndex := 29, descriptorIndex := 204, attributes := #[] }] 33 2 #[318] #[{ accessFlags := 26, nameIndex := 320, descriptorIndex := 321, attributes := #[] }, { accessFlags := 130, nameIndex := 200, descriptorIndex := 201, attributes := #[] }, { accessFlags := 2, nameIndex := 33, descriptorIndex := 34, attributes := #[] }, { accessFlags := 26, nameIndex := 15, descriptorIndex := 16, attributes := #[] }, { accessFlags := 2, nameIndex := 11, descriptorIndex := 12, attributes := #[] }, { accessFlags := 2, nameIndex := 19, descriptorIndex := 16, attributes := #[] }, { accessFlags := 130, nameIndex := 211, descriptorIndex := 212, attributes := #[] }, { accessFlags := 26, nameIndex := 22, descriptorIndex := 23, attributes := #[] }, { accessFlags := 2, nameIndex := 26, descriptorIndex := 23, attributes := #[] }, { accessFlags := 26, nameIndex := 327, descriptorIndex := 34, attributes := #[] }, { accessFlags := 26, nameIndex := 328, descriptorIndex := 34, attributes := #[] }, { accessFlags := 26, nameIndex := 329, descriptorIndex := 34, attributes := #[] }, { accessFlags := 26, nameIndex := 330, descriptorIndex := 34, attributes := #[] }, { accessFlags := 26, nameIndex := 304, descriptorIndex := 305, attributes := #[] }, { accessFlags := 4120, nameIndex := 165, descriptorIndex := 166, attributes := #[] }])
  fields := #[{ name := "serialVersionUID", type := .long, accessFlags := 26, slot := 0, constantValue := 0 }, { name := "backtrace", type := (.object "java/lang/Object"), accessFlags := 130, slot := 0, constantValue := 0 }, { name := "detailMessage", type := (.object "java/lang/String"), accessFlags := 2, slot := 1, constantValue := 0 }, { name := "UNASSIGNED_STACK", type := (.array (.object "java/lang/StackTraceElement")), accessFlags := 26, slot := 1, constantValue := 0 }, { name := "cause", type := (.object "java/lang/Throwable"), accessFlags := 2, slot := 2, constantValue := 0 }, { name := "stackTrace", type := (.array (.object "java/lang/StackTraceElement")), accessFlags := 2, slot := 3, constantValue := 0 }, { name := "depth", type := .int, accessFlags := 130, slot := 4, constantValue := 0 }, { name := "SUPPRESSED_SENTINEL", type := (.object "java/util/List"), accessFlags := 26, slot := 2, constantValue := 0 }, { name := "suppressedExceptions", type := (.object "java/util/List"), accessFlags := 2, slot := 5, constantValue := 0 }, { name := "NULL_CAUSE_MESSAGE", type := (.object "java/lang/String"), accessFlags := 26, slot := 3, constantValue := 0 }, { name := "SELF_SUPPRESSION_MESSAGE", type := (.object "java/lang/String"), accessFlags := 26, slot := 4, constantValue := 0 }, { name := "CAUSE_CAPTION", type := (.object "java/lang/String"), accessFlags := 26, slot := 5, constantValue := 0 }, { name := "SUPPRESSED_CAPTION", type := (.object "java/lang/String"), accessFlags := 26, slot := 6, constantValue := 0 }, { name := "EMPTY_THROWABLE_ARRAY", type := (.array (.object "java/lang/Throwable")), accessFlags := 26, slot := 7, constantValue := 0 }, { name := "$assertionsDisabled", type := .boolean, accessFlags := 4120, slot := 8, constantValue := 0 }]
  methods := #[k11m0, k11m1, k11m2, k11m3]
  instanceTypes := #[(.object "java/lang/Object"), (.object "java/lang/String"), (.object "java/lang/Throwable"), (.array (.object "java/lang/StackTraceElement")), .int, (.object "java/util/List")]
  staticTypes := #[.long, (.array (.object "java/lang/StackTraceElement")), (.object "java/util/List"), (.object "java/lang/String"), (.object "java/lang/String"), (.object "java/lang/String"), (.object "java/lang/String"), (.array (.object "java/lang/Throwable")), .boolean]
  resolved := Array.replicate 404 none
  statics := some 2 }

def pool12 : Array CpInfo := pool [(2, .class_ 4), (1, u "java/lang/Throwable"), (0, u "<init>"), (0, u "()V"), (3, .methodref 2 11), (0, .nameAndType 5 12), (0, u "(Ljava/lang/String;Ljava/lang/Throwable;)V"), (6, .class_ 20), (0, u "java/lang/Exception"), (0, u "serialVersionUID"), (0, u "J")] 17

def k12m0 : Method := { name := "<init>", desc := "()V", sig := { parameters := [], returnType := none }, accessFlags := 1, code := none }
def k12c1 : Code := { maxStack := 3, maxLocals := 3, code := jdk_59_method_3_code, exceptionTable := #[], attributes := #[] }
def k12m1 : Method := { name := "<init>", desc := "(Ljava/lang/String;Ljava/lang/Throwable;)V", sig := { parameters := [(.object "java/lang/String"), (.object "java/lang/Throwable")], returnType := none }, accessFlags := 1, code := some k12c1 }
/-- java/lang/Exception -/
def k12 : Class := { plain "java/lang/Exception" (some 11) with
  accessFlags := 33
  interfaces := #[]
  cf := some (fileOf pool12 19 #[] #[{ accessFlags := 1, nameIndex := 5, descriptorIndex := 6, attributes := #[] }, { accessFlags := 1, nameIndex := 5, descriptorIndex := 12, attributes := #[] }] 33 2 #[] #[{ accessFlags := 24, nameIndex := 21, descriptorIndex := 22, attributes := #[] }])
  fields := #[{ name := "serialVersionUID", type := .long, accessFlags := 24, slot := 0, constantValue := 0 }]
  methods := #[k12m0, k12m1]
  instanceTypes := #[(.object "java/lang/Object"), (.object "java/lang/String"), (.object "java/lang/Throwable"), (.array (.object "java/lang/StackTraceElement")), .int, (.object "java/util/List")]
  staticTypes := #[.long]
  resolved := Array.replicate 40 none
  statics := none }

def pool13 : Array CpInfo := pool [(1, .fieldref 2 3), (0, .class_ 4), (0, .nameAndType 5 6), (0, u "com/example/jetway/jetway/FetchException$Kind"), (0, u "FAILED"), (0, u "Lcom/example/jetway/jetway/FetchException$Kind;"), (0, .methodref 8 9), (0, .class_ 10), (0, .nameAndType 11 12), (0, u "com/example/jetway/jetway/FetchException"), (0, u "<init>"), (0, u "(Ljava/lang/String;Ljava/lang/Throwable;Lcom/example/jetway/jetway/FetchException$Kind;)V"), (0, .methodref 14 15), (0, .class_ 16), (0, .nameAndType 11 17), (0, u "java/lang/Exception"), (0, u "(Ljava/lang/String;Ljava/lang/Throwable;)V"), (0, .fieldref 8 19), (0, .nameAndType 20 6), (0, u "kind"), (0, .fieldref 2 22), (0, .nameAndType 23 6), (0, u "UNREACHABLE"), (0, .fieldref 2 25), (0, .nameAndType 26 6), (0, u "NOT_FOUND"), (0, u "serialVersionUID"), (0, u "J"), (3, u "(Ljava/lang/String;)V"), (2, u "unreachable"), (0, u "()Z"), (1, u "notFound")] 5

def k13c0 : Code := { maxStack := 4, maxLocals := 2, code := prog_30_method_1_code, exceptionTable := #[], attributes := #[] }
def k13m0 : Method := { name := "<init>", desc := "(Ljava/lang/String;)V", sig := { parameters := [(.object "java/lang/String")], returnType := none }, accessFlags := 0, code := some k13c0 }
def k13c1 : Code := { maxStack := 4, maxLocals := 3, code := prog_30_method_2_code, exceptionTable := #[], attributes := #[] }
def k13m1 : Method := { name := "<init>", desc := "(Ljava/lang/String;Ljava/lang/Throwable;)V", sig := { parameters := [(.object "java/lang/String"), (.object "java/lang/Throwable")], returnType := none }, accessFlags := 0, code := some k13c1 }
def k13c2 : Code := { maxStack := 3, maxLocals := 4, code := prog_30_method_3_code, exceptionTable := #[], attributes := #[] }
def k13m2 : Method := { name := "<init>", desc := "(Ljava/lang/String;Ljava/lang/Throwable;Lcom/example/jetway/jetway/FetchException$Kind;)V", sig := { parameters := [(.object "java/lang/String"), (.object "java/lang/Throwable"), (.object "com/example/jetway/jetway/FetchException$Kind")], returnType := none }, accessFlags := 0, code := some k13c2 }
def k13c3 : Code := { maxStack := 2, maxLocals := 1, code := prog_30_method_4_code, exceptionTable := #[], attributes := #[] }
def k13m3 : Method := { name := "unreachable", desc := "()Z", sig := { parameters := [], returnType := some .boolean }, accessFlags := 0, code := some k13c3 }
def k13c4 : Code := { maxStack := 2, maxLocals := 1, code := prog_30_method_5_code, exceptionTable := #[], attributes := #[] }
def k13m4 : Method := { name := "notFound", desc := "()Z", sig := { parameters := [], returnType := some .boolean }, accessFlags := 0, code := some k13c4 }
/-- com/example/jetway/jetway/FetchException -/
def k13 : Class := { plain "com/example/jetway/jetway/FetchException" (some 12) with
  accessFlags := 48
  interfaces := #[]
  cf := some (fileOf pool13 8 #[.nestMembers #[2]] #[{ accessFlags := 0, nameIndex := 11, descriptorIndex := 32, attributes := #[] }, { accessFlags := 0, nameIndex := 11, descriptorIndex := 17, attributes := #[] }, { accessFlags := 0, nameIndex := 11, descriptorIndex := 12, attributes := #[] }, { accessFlags := 0, nameIndex := 35, descriptorIndex := 36, attributes := #[] }, { accessFlags := 0, nameIndex := 38, descriptorIndex := 36, attributes := #[] }] 48 14 #[] #[{ accessFlags := 26, nameIndex := 27, descriptorIndex := 28, attributes := #[] }, { accessFlags := 18, nameIndex := 20, descriptorIndex := 6, attributes := #[] }])
  fields := #[{ name := "serialVersionUID", type := .long, accessFlags := 26, slot := 0, constantValue := 0 }, { name := "kind", type := (.object "com/example/jetway/jetway/FetchException$Kind"), accessFlags := 18, slot := 6, constantValue := 0 }]
  methods := #[k13m0, k13m1, k13m2, k13m3, k13m4]
  instanceTypes := #[(.object "java/lang/Object"), (.object "java/lang/String"), (.object "java/lang/Throwable"), (.array (.object "java/lang/StackTraceElement")), .int, (.object "java/util/List"), (.object "com/example/jetway/jetway/FetchException$Kind")]
  staticTypes := #[.long]
  resolved := Array.replicate 44 none
  statics := none }

def pool14 : Array CpInfo := pool [(4, .class_ 6), (1, u "java/lang/Object"), (0, u "<init>"), (0, u "()V"), (5, .class_ 16), (1, u "java/lang/StringLatin1"), (104, u "$assertionsDisabled"), (0, u "Z"), (98, .class_ 223), (1, u "java/lang/StringLatin1$LinesSpliterator"), (166, .class_ 391), (0, u "java/lang/StringLatin1$CharsSpliterator")] 3

def k14m0 : Method := { name := "<init>", desc := "()V", sig := { parameters := [], returnType := none }, accessFlags := 0, code := none }
/-- java/lang/StringLatin1 -/
def k14 : Class := { plain "java/lang/StringLatin1" (some 0) with
  accessFlags := 48
  interfaces := #[]
  cf := some (fileOf pool14 14 #[.nestMembers #[390, 221]] #[{ accessFlags := 0, nameIndex := 7, descriptorIndex := 8, attributes := #[] }] 48 4 #[] #[{ accessFlags := 4120, nameIndex := 121, descriptorIndex := 122, attributes := #[] }])
  fields := #[{ name := "$assertionsDisabled", type := .boolean, accessFlags := 4120, slot := 0, constantValue := 0 }]
  methods := #[k14m0]
  instanceTypes := #[]
  staticTypes := #[.boolean]
  resolved := Array.replicate 395 none
  statics := none }

def pool15 : Array CpInfo := pool [(2, .class_ 4), (1, u "java/lang/Object"), (0, u "<init>"), (0, u "()V"), (17, .class_ 26), (1, u "jdk/internal/util/Preconditions"), (28, .class_ 56), (0, u "jdk/internal/util/Preconditions$4"), (57, .class_ 115), (0, u "jdk/internal/util/Preconditions$1"), (7, u "SIOOBE_FORMATTER"), (0, u "Ljava/util/function/BiFunction;"), (0, .class_ 126), (0, u "jdk/internal/util/Preconditions$2"), (3, u "AIOOBE_FORMATTER"), (0, .class_ 132), (0, u "jdk/internal/util/Preconditions$3"), (3, u "IOOBE_FORMATTER")] 57

def k15m0 : Method := { name := "<init>", desc := "()V", sig := { parameters := [], returnType := none }, accessFlags := 1, code := none }
/-- jdk/internal/util/Preconditions -/
def k15 : Class := { plain "jdk/internal/util/Preconditions" (some 0) with
  accessFlags := 33
  interfaces := #[]
  cf := some (fileOf pool15 24 #[.nestMembers #[55, 131, 125, 114]] #[{ accessFlags := 1, nameIndex := 5, descriptorIndex := 6, attributes := #[] }] 33 2 #[] #[{ accessFlags := 25, nameIndex := 123, descriptorIndex := 124, attributes := #[] }, { accessFlags := 25, nameIndex := 130, descriptorIndex := 124, attributes := #[] }, { accessFlags := 25, nameIndex := 136, descriptorIndex := 124, attributes := #[] }])
  fields := #[{ name := "SIOOBE_FORMATTER", type := (.object "java/util/function/BiFunction"), accessFlags := 25, slot := 0, constantValue := 0 }, { name := "AIOOBE_FORMATTER", type := (.object "java/util/function/BiFunction"), accessFlags := 25, slot := 1, constantValue := 0 }, { name := "IOOBE_FORMATTER", type := (.object "java/util/function/BiFunction"), accessFlags := 25, slot := 2, constantValue := 0 }]
  methods := #[k15m0]
  instanceTypes := #[]
  staticTypes := #[(.object "java/util/function/BiFunction"), (.object "java/util/function/BiFunction"), (.object "java/util/function/BiFunction")]
  resolved := Array.replicate 194 none
  statics := some 3 }

def pool16 : Array CpInfo := pool [(9, u "<init>"), (6, .class_ 18), (1, u "java/lang/Object"), (0, u "()V"), (1, .class_ 23), (1, u "jdk/internal/util/ArraysSupport"), (0, u "LOG2_ARRAY_LONG_INDEX_SCALE"), (0, u "I"), (2, u "U"), (0, u "Ljdk/internal/misc/Unsafe;"), (8, u "BIG_ENDIAN"), (0, u "Z"), (8, u "LOG2_BYTE_BIT_SIZE"), (4, u "LOG2_ARRAY_INT_INDEX_SCALE"), (54, u "JLA"), (0, u "Ljdk/internal/access/JavaLangAccess;"), (11, u "LOG2_ARRAY_BOOLEAN_INDEX_SCALE"), (9, u "LOG2_ARRAY_BYTE_INDEX_SCALE"), (5, u "LOG2_ARRAY_CHAR_INDEX_SCALE"), (5, u "LOG2_ARRAY_SHORT_INDEX_SCALE"), (18, u "LOG2_ARRAY_FLOAT_INDEX_SCALE"), (24, u "LOG2_ARRAY_DOUBLE_INDEX_SCALE"), (89, u "T_BOOLEAN"), (2, u "T_CHAR"), (1, u "T_FLOAT"), (1, u "T_DOUBLE"), (1, u "T_BYTE"), (1, u "T_SHORT"), (1, u "T_INT"), (1, u "T_LONG"), (1, u "SOFT_MAX_ARRAY_LENGTH")] 83

def k16m0 : Method := { name := "<init>", desc := "()V", sig := { parameters := [], returnType := none }, accessFlags := 2, code := none }
/-- jdk/internal/util/ArraysSupport -/
def k16 : Class := { plain "jdk/internal/util/ArraysSupport" (some 0) with
  accessFlags := 33
  interfaces := #[]
  cf := some (fileOf pool16 21 #[] #[{ accessFlags := 2, nameIndex := 9, descriptorIndex := 19, attributes := #[] }] 33 16 #[] #[{ accessFlags := 24, nameIndex := 28, descriptorIndex := 29, attributes := #[] }, { accessFlags := 26, nameIndex := 38, descriptorIndex := 39, attributes := #[] }, { accessFlags := 25, nameIndex := 121, descriptorIndex := 25, attributes := #[] }, { accessFlags := 25, nameIndex := 131, descriptorIndex := 25, attributes := #[] }, { accessFlags := 25, nameIndex := 137, descriptorIndex := 25, attributes := #[] }, { accessFlags := 25, nameIndex := 143, descriptorIndex := 25, attributes := #[] }, { accessFlags := 25, nameIndex := 53, descriptorIndex := 25, attributes := #[] }, { accessFlags := 25, nameIndex := 24, descriptorIndex := 25, attributes := #[] }, { accessFlags := 25, nameIndex := 162, descriptorIndex := 25, attributes := #[] }, { accessFlags := 25, nameIndex := 187, descriptorIndex := 25, attributes := #[] }, { accessFlags := 26, nameIndex := 48, descriptorIndex := 25, attributes := #[] }, { accessFlags := 25, nameIndex := 277, descriptorIndex := 25, attributes := #[] }, { accessFlags := 25, nameIndex := 280, descriptorIndex := 25, attributes := #[] }, { accessFlags := 25, nameIndex := 282, descriptorIndex := 25, attributes := #[] }, { accessFlags := 25, nameIndex := 284, descriptorIndex := 25, attributes := #[] }, { accessFlags := 25, nameIndex := 286, descriptorIndex := 25, attributes := #[] }, { accessFlags := 25, nameIndex := 288, descriptorIndex := 25, attributes := #[] }, { accessFlags := 25, nameIndex := 290, descriptorIndex := 25, attributes := #[] }, { accessFlags := 25, nameIndex := 292, descriptorIndex := 25, attributes := #[] }, { accessFlags := 26, nameIndex := 108, descriptorIndex := 109, attributes := #[] }, { accessFlags := 25, nameIndex := 294, descriptorIndex := 25, attributes := #[] }])
  fields := #[{ name := "U", type := (.object "jdk/internal/misc/Unsafe"), accessFlags := 24, slot := 0, constantValue := 0 }, { name := "BIG_ENDIAN", type := .boolean, accessFlags := 26, slot := 1, constantValue := 0 }, { name := "LOG2_ARRAY_BOOLEAN_INDEX_SCALE", type := .int, accessFlags := 25, slot := 2, constantValue := 0 }, { name := "LOG2_ARRAY_BYTE_INDEX_SCALE", type := .int, accessFlags := 25, slot := 3, constantValue := 0 }, { name := "LOG2_ARRAY_CHAR_INDEX_SCALE", type := .int, accessFlags := 25, slot := 4, constantValue := 0 }, { name := "LOG2_ARRAY_SHORT_INDEX_SCALE", type := .int, accessFlags := 25, slot := 5, constantValue := 0 }, { name := "LOG2_ARRAY_INT_INDEX_SCALE", type := .int, accessFlags := 25, slot := 6, constantValue := 0 }, { name := "LOG2_ARRAY_LONG_INDEX_SCALE", type := .int, accessFlags := 25, slot := 7, constantValue := 0 }, { name := "LOG2_ARRAY_FLOAT_INDEX_SCALE", type := .int, accessFlags := 25, slot := 8, constantValue := 0 }, { name := "LOG2_ARRAY_DOUBLE_INDEX_SCALE", type := .int, accessFlags := 25, slot := 9, constantValue := 0 }, { name := "LOG2_BYTE_BIT_SIZE", type := .int, accessFlags := 26, slot := 10, constantValue := 0 }, { name := "T_BOOLEAN", type := .int, accessFlags := 25, slot := 11, constantValue := 0 }, { name := "T_CHAR", type := .int, accessFlags := 25, slot := 12, constantValue := 0 }, { name := "T_FLOAT", type := .int, accessFlags := 25, slot := 13, constantValue := 0 }, { name := "T_DOUBLE", type := .int, accessFlags := 25, slot := 14, constantValue := 0 }, { name := "T_BYTE", type := .int, accessFlags := 25, slot := 15, constantValue := 0 }, { name := "T_SHORT", type := .int, accessFlags := 25, slot := 16, constantValue := 0 }, { name := "T_INT", type := .int, accessFlags := 25, slot := 17, constantValue := 0 }, { name := "T_LONG", type := .int, accessFlags := 25, slot := 18, constantValue := 0 }, { name := "JLA", type := (.object "jdk/internal/access/JavaLangAccess"), accessFlags := 26, slot := 19, constantValue := 0 }, { name := "SOFT_MAX_ARRAY_LENGTH", type := .int, accessFlags := 25, slot := 20, constantValue := 0 }]
  methods := #[k16m0]
  instanceTypes := #[]
  staticTypes := #[(.object "jdk/internal/misc/Unsafe"), .boolean, .int, .int, .int, .int, .int, .int, .int, .int, .int, .int, .int, .int, .int, .int, .int, .int, .int, (.object "jdk/internal/access/JavaLangAccess"), .int]
  resolved := Array.replicate 378 none
  statics := none }

def pool17 : Array CpInfo := pool [(2, .class_ 4), (1, u "java/lang/Object"), (0, u "<init>"), (0, u "()V"), (12, .class_ 20), (0, u "java/util/Collections"), (63, u "r"), (0, u "Ljava/util/Random;"), (80, .class_ 167), (0, u "java/util/Collections$UnmodifiableCollection"), (6, .class_ 175), (0, u "java/util/Collections$UnmodifiableSequencedCollection"), (6, .class_ 183), (0, u "java/util/Collections$UnmodifiableSet"), (6, .class_ 191), (0, u "java/util/Collections$UnmodifiableSequencedSet"), (6, .class_ 199), (0, u "java/util/Collections$UnmodifiableSortedSet"), (6, .class_ 207), (0, u "java/util/Collections$UnmodifiableNavigableSet"), (4, .class_ 213), (0, u "java/util/Collections$UnmodifiableList"), (1, .class_ 216), (0, u "java/util/Collections$UnmodifiableRandomAccessList"), (6, .class_ 224), (0, u "java/util/Collections$UnmodifiableMap"), (6, .class_ 232), (0, u "java/util/Collections$UnmodifiableSequencedMap"), (4, .class_ 238), (0, u "java/util/Collections$UnmodifiableSortedMap"), (6, .class_ 246), (0, u "java/util/Collections$UnmodifiableNavigableMap"), (3, .class_ 251), (0, u "java/util/Collections$SynchronizedCollection"), (4, .class_ 257), (0, u "java/util/Collections$SynchronizedSet"), (4, .class_ 263), (0, u "java/util/Collections$SynchronizedSortedSet"), (1, .class_ 266), (0, u "java/util/Collections$SynchronizedNavigableSet"), (1, .class_ 269), (0, u "java/util/Collections$SynchronizedRandomAccessList"), (1, .class_ 272), (0, u "java/util/Collections$SynchronizedList"), (5, .class_ 279), (0, u "java/util/Collections$SynchronizedMap"), (1, .class_ 282), (0, u "java/util/Collections$SynchronizedSortedMap"), (1, .class_ 285), (0, u "java/util/Collections$SynchronizedNavigableMap"), (1, .class_ 288), (0, u "java/util/Collections$CheckedCollection"), (11, .class_ 301), (0, u "java/util/Collections$CheckedQueue"), (3, .class_ 306), (0, u "java/util/Collections$CheckedSet"), (3, .class_ 311), (0, u "java/util/Collections$CheckedSortedSet"), (3, .class_ 316), (0, u "java/util/Collections$CheckedNavigableSet"), (3, .class_ 321), (0, u "java/util/Collections$CheckedRandomAccessList"), (3, .class_ 326), (0, u "java/util/Collections$CheckedList"), (1, .class_ 329), (0, u "java/util/Collections$CheckedMap"), (3, .class_ 334), (0, u "java/util/Collections$CheckedSortedMap"), (3, .class_ 339), (0, u "java/util/Collections$CheckedNavigableMap"), (4, .class_ 346), (1, u "java/util/Collections$EmptyIterator"), (3, .class_ 352), (1, u "java/util/Collections$EmptyListIterator"), (2, .class_ 357), (1, u "java/util/Collections$EmptyEnumeration"), (4, u "EMPTY_SET"), (0, u "Ljava/util/Set;"), (6, u "EMPTY_LIST"), (0, u "Ljava/util/List;"), (2, u "EMPTY_MAP"), (0, u "Ljava/util/Map;"), (4, .class_ 381), (0, u "java/util/Collections$SingletonSet"), (2, .class_ 385), (0, u "java/util/Collections$1"), (1, .class_ 388), (0, u "java/util/Collections$2"), (1, .class_ 391), (0, u "java/util/Collections$SingletonList"), (1, .class_ 394), (0, u "java/util/Collections$SingletonMap"), (22, .class_ 418), (0, u "java/util/Collections$CopiesList"), (4, .class_ 425), (1, u "java/util/Collections$ReverseComparator"), (8, .class_ 435), (0, u "java/util/Collections$ReverseComparator2"), (6, .class_ 443), (0, u "java/util/Collections$3"), (25, .class_ 470), (0, u "java/util/Collections$SetFromMap"), (2, .class_ 474), (0, u "java/util/Collections$SequencedSetFromMap"), (3, .class_ 479), (0, u "java/util/Collections$AsLIFOQueue"), (11, .class_ 492), (0, u "java/util/Collections$EmptySet"), (1, .class_ 495), (0, u "java/util/Collections$EmptyList"), (1, .class_ 498), (0, u "java/util/Collections$EmptyMap"), (1, u "BINARYSEARCH_THRESHOLD"), (0, u "I"), (2, u "REVERSE_THRESHOLD"), (1, u "SHUFFLE_THRESHOLD"), (1, u "FILL_THRESHOLD"), (1, u "ROTATE_THRESHOLD"), (1, u "COPY_THRESHOLD"), (1, u "REPLACEALL_THRESHOLD"), (1, u "INDEXOFSUBLIST_THRESHOLD"), (333, .class_ 851), (0, u "java/util/Collections$CheckedMap$CheckedEntrySet"), (0, .class_ 853), (0, u "java/util/Collections$CheckedMap$CheckedEntrySet$CheckedEntry"), (0, .class_ 855), (0, u "java/util/Collections$CheckedMap$CheckedEntrySet$1"), (0, .class_ 857), (0, u "java/util/Collections$CheckedList$1"), (0, .class_ 859), (0, u "java/util/Collections$CheckedCollection$1"), (0, .class_ 861), (0, u "java/util/Collections$UnmodifiableNavigableMap$EmptyNavigableMap"), (0, .class_ 863), (0, u "java/util/Collections$UnmodifiableMap$UnmodifiableEntrySet"), (0, .class_ 865), (0, u "java/util/Collections$UnmodifiableMap$UnmodifiableEntrySet$UnmodifiableEntry"), (0, .class_ 867), (0, u "java/util/Collections$UnmodifiableMap$UnmodifiableEntrySet$UnmodifiableEntrySetSpliterator"), (0, .class_ 869), (0, u "java/util/Collections$UnmodifiableMap$UnmodifiableEntrySet$1"), (0, .class_ 871), (0, u "java/util/Collections$UnmodifiableList$1"), (0, .class_ 873), (0, u "java/util/Collections$UnmodifiableNavigableSet$EmptyNavigableSet"), (0, .class_ 875), (0, u "java/util/Collections$UnmodifiableCollection$1")] 57

def k17m0 : Method := { name := "<init>", desc := "()V", sig := { parameters := [], returnType := none }, accessFlags := 2, code := none }
/-- java/util/Collections -/
def k17 : Class := { plain "java/util/Collections" (some 0) with
  accessFlags := 33
  interfaces := #[]
  cf := some (fileOf pool17 19 #[.nestMembers #[478, 473, 469, 434, 423, 417, 393, 390, 380, 497, 494, 491, 355, 350, 344, 338, 333, 328, 850, 852, 854, 320, 325, 856, 315, 310, 305, 300, 287, 858, 284, 281, 278, 268, 271, 265, 262, 256, 250, 245, 860, 237, 231, 223, 862, 864, 866, 868, 215, 212, 870, 206, 872, 198, 190, 182, 174, 166, 874, 442, 387, 384]] #[{ accessFlags := 2, nameIndex := 5, descriptorIndex := 6, attributes := #[] }] 33 2 #[] #[{ accessFlags := 26, nameIndex := 500, descriptorIndex := 501, attributes := #[] }, { accessFlags := 26, nameIndex := 504, descriptorIndex := 501, attributes := #[] }, { accessFlags := 26, nameIndex := 506, descriptorIndex := 501, attributes := #[] }, { accessFlags := 26, nameIndex := 508, descriptorIndex := 501, attributes := #[] }, { accessFlags := 26, nameIndex := 510, descriptorIndex := 501, attributes := #[] }, { accessFlags := 26, nameIndex := 512, descriptorIndex := 501, attributes := #[] }, { accessFlags := 26, nameIndex := 514, descriptorIndex := 501, attributes := #[] }, { accessFlags := 26, nameIndex := 516, descriptorIndex := 501, attributes := #[] }, { accessFlags := 10, nameIndex := 84, descriptorIndex := 85, attributes := #[] }, { accessFlags := 25, nameIndex := 362, descriptorIndex := 363, attributes := #[] }, { accessFlags := 25, nameIndex := 370, descriptorIndex := 371, attributes := #[] }, { accessFlags := 25, nameIndex := 374, descriptorIndex := 375, attributes := #[] }])
  fields := #[{ name := "BINARYSEARCH_THRESHOLD", type := .int, accessFlags := 26, slot := 0, constantValue := 0 }, { name := "REVERSE_THRESHOLD", type := .int, accessFlags := 26, slot := 1, constantValue := 0 }, { name := "SHUFFLE_THRESHOLD", type := .int, accessFlags := 26, slot := 2, constantValue := 0 }, { name := "FILL_THRESHOLD", type := .int, accessFlags := 26, slot := 3, constantValue := 0 }, { name := "ROTATE_THRESHOLD", type := .int, accessFlags := 26, slot := 4, constantValue := 0 }, { name := "COPY_THRESHOLD", type := .int, accessFlags := 26, slot := 5, constantValue := 0 }, { name := "REPLACEALL_THRESHOLD", type := .int, accessFlags := 26, slot := 6, constantValue := 0 }, { name := "INDEXOFSUBLIST_THRESHOLD", type := .int, accessFlags := 26, slot := 7, constantValue := 0 }, { name := "r", type := (.object "java/util/Random"), accessFlags := 10, slot := 8, constantValue := 0 }, { name := "EMPTY_SET", type := (.object "java/util/Set"), accessFlags := 25, slot := 9, constantValue := 0 }, { name := "EMPTY_LIST", type := (.object "java/util/List"), accessFlags := 25, slot := 10, constantValue := 0 }, { name := "EMPTY_MAP", type := (.object "java/util/Map"), accessFlags := 25, slot := 11, constantValue := 0 }]
  methods := #[k17m0]
  instanceTypes := #[]
  staticTypes := #[.int, .int, .int, .int, .int, .int, .int, .int, (.object "java/util/Random"), (.object "java/util/Set"), (.object "java/util/List"), (.object "java/util/Map")]
  resolved := Array.replicate 933 none
  statics := some 4 }

def pool18 : Array CpInfo := pool [(8, .class_ 10), (1, u "java/lang/Iterable"), (24, .class_ 36), (0, u "java/lang/Object")] 25

/-- java/lang/Iterable -/
def k18 : Class := { plain "java/lang/Iterable" (some 0) with
  accessFlags := 1537
  interfaces := #[]
  cf := some (fileOf pool18 8 #[] #[] 1537 35 #[] #[])
  fields := #[]
  methods := #[]
  instanceTypes := #[]
  staticTypes := #[]
  resolved := Array.replicate 62 none
  statics := none }

def pool19 : Array CpInfo := pool [(10, .class_ 12), (1, u "java/util/Collection"), (47, .class_ 61), (0, u "java/lang/Object"), (0, .class_ 63), (0, u "java/lang/Iterable")] 51

/-- java/util/Collection -/
def k19 : Class := { plain "java/util/Collection" (some 0) with
  accessFlags := 1537
  interfaces := #[18]
  cf := some (fileOf pool19 10 #[] #[] 1537 60 #[62] #[])
  fields := #[]
  methods := #[]
  instanceTypes := #[]
  staticTypes := #[]
  resolved := Array.replicate 115 none
  statics := none }

def pool20 : Array CpInfo := pool [(2, .class_ 4), (1, u "java/lang/Object"), (0, u "<init>"), (0, u "()V"), (1, .class_ 10), (1, u "java/util/AbstractCollection"), (66, .class_ 78), (0, u "java/util/Collection")] 81

def k20m0 : Method := { name := "<init>", desc := "()V", sig := { parameters := [], returnType := none }, accessFlags := 4, code := none }
/-- java/util/AbstractCollection -/
def k20 : Class := { plain "java/util/AbstractCollection" (some 0) with
  accessFlags := 1057
  interfaces := #[19]
  cf := some (fileOf pool20 8 #[] #[{ accessFlags := 4, nameIndex := 5, descriptorIndex := 6, attributes := #[] }] 1057 2 #[77] #[])
  fields := #[]
  methods := #[k20m0]
  instanceTypes := #[]
  staticTypes := #[]
  resolved := Array.replicate 160 none
  statics := none }

def pool21 : Array CpInfo := pool [(8, .class_ 10), (1, u "java/util/SequencedCollection"), (15, .class_ 27), (0, u "java/lang/Object"), (0, .class_ 29), (0, u "java/util/Collection")] 27

/-- java/util/SequencedCollection -/
def k21 : Class := { plain "java/util/SequencedCollection" (some 0) with
  accessFlags := 1537
  interfaces := #[19]
  cf := some (fileOf pool21 8 #[] #[] 1537 26 #[28] #[])
  fields := #[]
  methods := #[]
  instanceTypes := #[]
  staticTypes := #[]
  resolved := Array.replicate 57 none
  statics := none }

def pool22 : Array CpInfo := pool [(8, .class_ 10), (1, u "java/util/List"), (92, .class_ 104), (0, u "java/lang/Object"), (15, .class_ 121), (0, u "java/util/SequencedCollection")] 129

/-- java/util/List -/
def k22 : Class := { plain "java/util/List" (some 0) with
  accessFlags := 1537
  interfaces := #[21]
  cf := some (fileOf pool22 8 #[] #[] 1537 103 #[120] #[])
  fields := #[]
  methods := #[]
  instanceTypes := #[]
  staticTypes := #[]
  resolved := Array.replicate 251 none
  statics := none }

def pool23 : Array CpInfo := pool [(2, .class_ 4), (1, u "java/util/AbstractCollection"), (0, u "<init>"), (0, u "()V"), (1, .class_ 10), (1, u "java/util/AbstractList"), (0, u "modCount"), (0, u "I"), (64, .class_ 78), (0, u "java/util/AbstractList$Itr"), (3, .class_ 83), (0, u "java/util/AbstractList$ListItr"), (9, .class_ 94), (0, u "java/util/AbstractList$RandomAccessSubList"), (3, .class_ 99), (0, u "java/util/AbstractList$SubList"), (33, .class_ 134), (0, u "java/util/List"), (73, .class_ 209), (0, u "java/util/AbstractList$SubList$1"), (0, .class_ 211), (0, u "java/util/AbstractList$RandomAccessSpliterator")] 6

def k23m0 : Method := { name := "<init>", desc := "()V", sig := { parameters := [], returnType := none }, accessFlags := 4, code := none }
/-- java/util/AbstractList -/
def k23 : Class := { plain "java/util/AbstractList" (some 20) with
  accessFlags := 1057
  interfaces := #[22]
  cf := some (fileOf pool23 8 #[.nestMembers #[93, 98, 208, 210, 82, 77]] #[{ accessFlags := 4, nameIndex := 5, descriptorIndex := 6, attributes := #[] }] 1057 2 #[133] #[{ accessFlags := 132, nameIndex := 11, descriptorIndex := 12, attributes := #[] }])
  fields := #[{ name := "modCount", type := .int, accessFlags := 132, slot := 0, constantValue := 0 }]
  methods := #[k23m0]
  instanceTypes := #[.int]
  staticTypes := #[]
  resolved := Array.replicate 218 none
  statics := none }

def pool24 : Array CpInfo := pool [(1, .class_ 2), (0, u "java/util/RandomAccess"), (0, .class_ 4), (0, u "java/lang/Object")] 2

/-- java/util/RandomAccess -/
def k24 : Class := { plain "java/util/RandomAccess" (some 0) with
  accessFlags := 1537
  interfaces := #[]
  cf := some (fileOf pool24 1 #[] #[] 1537 3 #[] #[])
  fields := #[]
  methods := #[]
  instanceTypes := #[]
  staticTypes := #[]
  resolved := Array.replicate 7 none
  statics := none }

def pool25 : Array CpInfo := pool [(2, .class_ 4), (1, u "java/util/AbstractList"), (0, u "<init>"), (0, u "()V"), (1, .class_ 10), (1, u "java/util/Collections"), (54, .class_ 66), (0, u "java/util/Collections$EmptyList"), (0, .class_ 68), (0, u "java/util/RandomAccess"), (0, .class_ 70), (0, u "java/io/Serializable"), (0, u "serialVersionUID"), (0, u "J")] 77

def k25m0 : Method := { name := "<init>", desc := "()V", sig := { parameters := [], returnType := none }, accessFlags := 2, code := none }
/-- java/util/Collections$EmptyList -/
def k25 : Class := { plain "java/util/Collections$EmptyList" (some 23) with
  accessFlags := 32
  interfaces := #[24, 2]
  cf := some (fileOf pool25 65 #[.nestHost 8] #[{ accessFlags := 2, nameIndex := 5, descriptorIndex := 6, attributes := #[] }] 32 2 #[67, 69] #[{ accessFlags := 26, nameIndex := 71, descriptorIndex := 72, attributes := #[] }])
  fields := #[{ name := "serialVersionUID", type := .long, accessFlags := 26, slot := 0, constantValue := 0 }]
  methods := #[k25m0]
  instanceTypes := #[.int]
  staticTypes := #[.long]
  resolved := Array.replicate 150 none
  statics := none }

def pool26 : Array CpInfo := pool [(2, .class_ 4), (1, u "java/lang/StackTraceElement"), (0, u "<init>"), (2, .class_ 10), (1, u "java/lang/Object"), (0, u "()V"), (2, u "format"), (0, u "B"), (2, u "classLoaderName"), (0, u "Ljava/lang/String;"), (2, u "moduleName"), (2, u "moduleVersion"), (12, u "declaringClass"), (4, u "methodName"), (2, u "fileName"), (2, u "lineNumber"), (0, u "I"), (65, u "declaringClassObject"), (0, u "Ljava/lang/Class;"), (33, .class_ 153), (1, u "java/lang/StackTraceElement$HashedModules"), (17, .class_ 172), (0, u "java/io/Serializable"), (0, u "NATIVE_METHOD"), (1, u "UNKNOWN_SOURCE"), (2, u "BUILTIN_CLASS_LOADER"), (1, u "JDK_NON_UPGRADEABLE_MODULE"), (1, u "serialVersionUID"), (0, u "J")] 51

def k26m0 : Method := { name := "<init>", desc := "()V", sig := { parameters := [], returnType := none }, accessFlags := 2, code := none }
/-- java/lang/StackTraceElement -/
def k26 : Class := { plain "java/lang/StackTraceElement" (some 0) with
  accessFlags := 49
  interfaces := #[2]
  cf := some (fileOf pool26 2 #[.nestMembers #[151]] #[{ accessFlags := 2, nameIndex := 5, descriptorIndex := 11, attributes := #[] }] 49 8 #[171] #[{ accessFlags := 26, nameIndex := 173, descriptorIndex := 19, attributes := #[] }, { accessFlags := 26, nameIndex := 175, descriptorIndex := 19, attributes := #[] }, { accessFlags := 130, nameIndex := 116, descriptorIndex := 117, attributes := #[] }, { accessFlags := 2, nameIndex := 18, descriptorIndex := 19, attributes := #[] }, { accessFlags := 2, nameIndex := 22, descriptorIndex := 19, attributes := #[] }, { accessFlags := 2, nameIndex := 25, descriptorIndex := 19, attributes := #[] }, { accessFlags := 2, nameIndex := 38, descriptorIndex := 19, attributes := #[] }, { accessFlags := 2, nameIndex := 43, descriptorIndex := 19, attributes := #[] }, { accessFlags := 2, nameIndex := 46, descriptorIndex := 19, attributes := #[] }, { accessFlags := 2, nameIndex := 49, descriptorIndex := 50, attributes := #[] }, { accessFlags := 2, nameIndex := 14, descriptorIndex := 15, attributes := #[] }, { accessFlags := 26, nameIndex := 178, descriptorIndex := 15, attributes := #[] }, { accessFlags := 26, nameIndex := 180, descriptorIndex := 15, attributes := #[] }, { accessFlags := 26, nameIndex := 182, descriptorIndex := 183, attributes := #[] }])
  fields := #[{ name := "NATIVE_METHOD", type := (.object "java/lang/String"), accessFlags := 26, slot := 0, constantValue := 0 }, { name := "UNKNOWN_SOURCE", type := (.object "java/lang/String"), accessFlags := 26, slot := 1, constantValue := 0 }, { name := "declaringClassObject", type := (.object "java/lang/Class"), accessFlags := 130, slot := 0, constantValue := 0 }, { name := "classLoaderName", type := (.object "java/lang/String"), accessFlags := 2, slot := 1, constantValue := 0 }, { name := "moduleName", type := (.object "java/lang/String"), accessFlags := 2, slot := 2, constantValue := 0 }, { name := "moduleVersion", type := (.object "java/lang/String"), accessFlags := 2, slot := 3, constantValue := 0 }, { name := "declaringClass", type := (.object "java/lang/String"), accessFlags := 2, slot := 4, constantValue := 0 }, { name := "methodName", type := (.object "java/lang/String"), accessFlags := 2, slot := 5, constantValue := 0 }, { name := "fileName", type := (.object "java/lang/String"), accessFlags := 2, slot := 6, constantValue := 0 }, { name := "lineNumber", type := .int, accessFlags := 2, slot := 7, constantValue := 0 }, { name := "format", type := .byte, accessFlags := 2, slot := 8, constantValue := 0 }, { name := "BUILTIN_CLASS_LOADER", type := .byte, accessFlags := 26, slot := 2, constantValue := 0 }, { name := "JDK_NON_UPGRADEABLE_MODULE", type := .byte, accessFlags := 26, slot := 3, constantValue := 0 }, { name := "serialVersionUID", type := .long, accessFlags := 26, slot := 4, constantValue := 0 }]
  methods := #[k26m0]
  instanceTypes := #[(.object "java/lang/Class"), (.object "java/lang/String"), (.object "java/lang/String"), (.object "java/lang/String"), (.object "java/lang/String"), (.object "java/lang/String"), (.object "java/lang/String"), .int, .byte]
  staticTypes := #[(.object "java/lang/String"), (.object "java/lang/String"), .byte, .byte, .long]
  resolved := Array.replicate 235 none
  statics := none }

def pool27 : Array CpInfo := pool [(1, u "java/lang/Cloneable"), (0, .class_ 1), (0, u "java/lang/Object"), (0, .class_ 3)] 3

/-- java/lang/Cloneable -/
def k27 : Class := { plain "java/lang/Cloneable" (some 0) with
  accessFlags := 1537
  interfaces := #[]
  cf := some (fileOf pool27 2 #[] #[] 1537 4 #[] #[])
  fields := #[]
  methods := #[]
  instanceTypes := #[]
  staticTypes := #[]
  resolved := Array.replicate 8 none
  statics := none }

/-- the primitive byte -/
def k28 : Class := { plain "byte" none with kind := .primitive 'B', accessFlags := 0x411 }
/-- [B -/
def k29 : Class := { plain "[B" (some 0) with kind := .array 28 .byte, interfaces := #[27, 2], accessFlags := 1041 }

/-- the primitive char -/
def k30 : Class := { plain "char" none with kind := .primitive 'C', accessFlags := 0x411 }
/-- [C -/
def k31 : Class := { plain "[C" (some 0) with kind := .array 30 .char, interfaces := #[27, 2], accessFlags := 1041 }

/-- the primitive int -/
def k32 : Class := { plain "int" none with kind := .primitive 'I', accessFlags := 0x411 }
/-- [I -/
def k33 : Class := { plain "[I" (some 0) with kind := .array 32 .int, interfaces := #[27, 2], accessFlags := 1041 }

/-- [Ljava/lang/Object; -/
def k34 : Class := { plain "[Ljava/lang/Object;" (some 0) with kind := .array 0 (.object "java/lang/Object"), interfaces := #[27, 2], accessFlags := 1041 }

/-- [Ljava/lang/StackTraceElement; -/
def k35 : Class := { plain "[Ljava/lang/StackTraceElement;" (some 0) with kind := .array 26 (.object "java/lang/StackTraceElement"), interfaces := #[27, 2], accessFlags := 1041 }

/-- [Ljava/lang/Throwable; -/
def k36 : Class := { plain "[Ljava/lang/Throwable;" (some 0) with kind := .array 11 (.object "java/lang/Throwable"), interfaces := #[27, 2], accessFlags := 1041 }

def heap : Heap := #[{ cls := 7, slots := #[.long 0, .int 1, .null, .int 0, .null, .int 0, .int 0], vm := .statics 7 },
  { cls := 10, slots := #[.ref 5, .ref 7, .ref 6, .null], vm := .statics 10 },
  { cls := 11, slots := #[.long 0, .ref 8, .ref 9, .null, .null, .null, .null, .ref 10, .int 1], vm := .statics 11 },
  { cls := 15, slots := #[.null, .null, .null], vm := .statics 15 },
  { cls := 17, slots := #[.int 0, .int 0, .int 0, .int 0, .int 0, .int 0, .int 0, .int 0, .null, .null, .ref 9, .null], vm := .statics 17 },
  { cls := 10, slots := #[.null, .int 0, .int 0], vm := .none },
  { cls := 10, slots := #[.null, .int 2, .int 0], vm := .none },
  { cls := 10, slots := #[.null, .int 1, .int 0], vm := .none },
  { cls := 35, slots := #[], vm := .none },
  { cls := 25, slots := #[.int 0], vm := .none },
  { cls := 36, slots := #[], vm := .none }]
def classes : Array Class := #[k0, k1, k2, k3, k4, k5, k6, k7, k8, k9, k10, k11, k12, k13, k14, k15, k16, k17, k18, k19, k20, k21, k22, k23, k24, k25, k26, k27, k28, k29, k30, k31, k32, k33, k34, k35, k36]
def interned : List (Array UInt16 × Addr) := []
def slotsUsed : Nat := 45
def theMethod : MethodId := ⟨1, 1⟩
def args0 : Array Value := #[.int 5, .int 5, .int 5, .int 5]
def aboutOver (below : List Frame) : State where
  vm := { classes := classes, interned := interned.toArray }
  heap := heap
  slotsUsed := slotsUsed
  threads := #[{ frames := .invoking theMethod args0 :: below }]
def below0 : List Frame := [.native { method := ⟨0, 0⟩, args := #[] }]
def about1 : State := aboutOver below0
def p0 : Program := .bare "" "" ""
def e0 : Env := launch0.env 0 0 0
theorem w_frames : about1.frames = Frame.invoking theMethod args0 :: below0 := rfl
set_option maxRecDepth 65536 in
theorem w_args : argsFit about1.vm theMethod args0 = true := by decide +kernel
set_option maxRecDepth 65536 in
theorem w_heap : heapFits about1 = true := by decide +kernel
set_option maxRecDepth 65536 in
theorem w_runnable : about1.curStatus? = some .runnable := by decide +kernel
set_option maxRecDepth 65536 in
theorem w_alone : about1.alone = true := by decide +kernel
set_option maxRecDepth 65536 in
theorem w_named : about1.methodNamed? x = some theMethod := by decide +kernel
set_option maxRecDepth 65536 in
theorem w_hears : about1.hears theMethod below0 = true := by decide +kernel
set_option maxRecDepth 65536 in
theorem w_ripe : about1.ripe theMethod args0 below0 = true := by decide +kernel
theorem w_running : about1.status = .running := rfl
set_option maxRecDepth 65536 in
theorem w_room : about1.hasRoom e0.platform room_1 = true :=
  launch0.hasRoom_least _ room_1 (by decide +kernel) (by decide +kernel) (by decide +kernel) (by decide +kernel) (by decide +kernel) (by decide +kernel)
theorem allAtoms_all (ts : List Jvm.Cond) (a : Array Jvm.Value) (st : Jvm.State) : (allAtoms ts).before a st = ts.all (fun c => c.before a st) := by
  induction ts with
  | nil => rfl
  | cons c t ih =>
    show (Jvm.Cond.and c (allAtoms t)).before a st = _
    rw [Jvm.Cond.before_and, ih, List.all_cons]
def words1 : List Jvm.Cond := Jvm.Cond.code x code maxLocals ret :: tables_1
/-- a 'code' word, met by the world's own term for the bytes: nothing is compared byte by byte -/
theorem code_word {y : MethodName} {bytes : ByteArray} {mx : Nat} {rt : Option FieldType} {a : Array Value} {s : State} {m : MethodId} {meth : Method} {c : Code} (h1 : s.methodNamed? y = some m) (h2 : s.vm.method? m = some meth) (h3 : meth.code = some c) (h4 : c.code = bytes)
    (h5 : (c.maxLocals == mx && c.exceptionTable.isEmpty && decide (c.maxStack ≤ mostOperands) && decide (meth.sig.returnType = rt) && !meth.locks && decide (parseMethodDescriptor y.desc = some meth.sig)) = true) : (Jvm.Cond.code y bytes mx rt).before a s = true := by
  simp only [Bool.and_eq_true, beq_iff_eq, Bool.not_eq_true', decide_eq_true_eq] at h5
  obtain ⟨⟨⟨⟨⟨g1, g2⟩, g3⟩, g4⟩, g5⟩, g6⟩ := h5
  simp [Cond.before, Cond.holds, Cond.value, h1, h2, h3, h4, g1, g2, g3, g4, g5, g6]
def isCode : Jvm.Cond → Bool
  | .code _ _ _ _ => true
  | _ => false
theorem all_split {L : List Jvm.Cond} {P : Jvm.Cond → Bool} (h1 : L.all (fun c => isCode c || P c) = true) (h2 : ∀ c ∈ L.filter isCode, P c = true) : L.all P = true := by
  refine List.all_eq_true.mpr fun c hc => ?_
  have h := List.all_eq_true.mp h1 c hc
  rcases Bool.eq_false_or_eq_true (isCode c) with hi | hi
  · exact h2 c (List.mem_filter.mpr ⟨hc, hi⟩)
  · simpa [hi] using h
set_option maxRecDepth 65536 in
theorem w_c0 : (Jvm.Cond.code x code maxLocals ret).before args0 about1 = true := code_word (m := ⟨1, 1⟩) (meth := k1m1) (c := k1c1) (by decide +kernel) rfl rfl rfl (by decide +kernel)
set_option maxRecDepth 65536 in
theorem w_c1 : (Jvm.Cond.code ({ cls := "java/lang/String", name := "<init>", desc := "([C)V" } : Jvm.MethodName) jdk_42_method_3_code (2 : Nat) (Option.none : Option Jvm.ClassFile.FieldType)).before args0 about1 = true := code_word (m := ⟨7, 1⟩) (meth := k7m1) (c := k7c1) (by decide +kernel) rfl rfl rfl (by decide +kernel)
set_option maxRecDepth 65536 in
theorem w_c2 : (Jvm.Cond.code ({ cls := "java/lang/String", name := "<init>", desc := "([CIILjava/lang/Void;)V" } : Jvm.MethodName) jdk_42_method_149_code (6 : Nat) (Option.none : Option Jvm.ClassFile.FieldType)).before args0 about1 = true := code_word (m := ⟨7, 2⟩) (meth := k7m2) (c := k7c2) (by decide +kernel) rfl rfl rfl (by decide +kernel)
set_option maxRecDepth 65536 in
theorem w_c3 : (Jvm.Cond.code ({ cls := "java/lang/Object", name := "<init>", desc := "()V" } : Jvm.MethodName) object_method_1_code (1 : Nat) (Option.none : Option Jvm.ClassFile.FieldType)).before args0 about1 = true := code_word (m := ⟨0, 0⟩) (meth := k0m0) (c := k0c0) (by decide +kernel) rfl rfl rfl (by decide +kernel)
set_option maxRecDepth 65536 in
theorem w_c4 : (Jvm.Cond.code ({ cls := "java/lang/StringUTF16", name := "compress", desc := "([CII)[B" } : Jvm.MethodName) jdk_52_method_16_code (6 : Nat) (Option.some (Jvm.ClassFile.FieldType.array Jvm.ClassFile.FieldType.byte))).before args0 about1 = true := code_word (m := ⟨8, 2⟩) (meth := k8m2) (c := k8c2) (by decide +kernel) rfl rfl rfl (by decide +kernel)
set_option maxRecDepth 65536 in
theorem w_c5 : (Jvm.Cond.code ({ cls := "java/lang/StringUTF16", name := "compress", desc := "([CI[BII)I" } : Jvm.MethodName) jdk_52_method_21_code (7 : Nat) (Option.some Jvm.ClassFile.FieldType.int)).before args0 about1 = true := code_word (m := ⟨8, 3⟩) (meth := k8m3) (c := k8c3) (by decide +kernel) rfl rfl rfl (by decide +kernel)
set_option maxRecDepth 65536 in
theorem w_c6 : (Jvm.Cond.code ({ cls := "java/lang/StringUTF16", name := "coderFromArrayLen", desc := "([BI)B" } : Jvm.MethodName) jdk_52_method_15_code (2 : Nat) (Option.some Jvm.ClassFile.FieldType.byte)).before args0 about1 = true := code_word (m := ⟨8, 1⟩) (meth := k8m1) (c := k8c1) (by decide +kernel) rfl rfl rfl (by decide +kernel)
set_option maxRecDepth 65536 in
theorem w_c7 : (Jvm.Cond.code ({ cls := "com/example/jetway/jetway/FetchException", name := "<init>", desc := "(Ljava/lang/String;)V" } : Jvm.MethodName) prog_30_method_1_code (2 : Nat) (Option.none : Option Jvm.ClassFile.FieldType)).before args0 about1 = true := code_word (m := ⟨13, 0⟩) (meth := k13m0) (c := k13c0) (by decide +kernel) rfl rfl rfl (by decide +kernel)
set_option maxRecDepth 65536 in
theorem w_c8 : (Jvm.Cond.code ({ cls := "com/example/jetway/jetway/FetchException", name := "<init>", desc := "(Ljava/lang/String;Ljava/lang/Throwable;Lcom/example/jetway/jetway/FetchException$Kind;)V" } : Jvm.MethodName) prog_30_method_3_code (4 : Nat) (Option.none : Option Jvm.ClassFile.FieldType)).before args0 about1 = true := code_word (m := ⟨13, 2⟩) (meth := k13m2) (c := k13c2) (by decide +kernel) rfl rfl rfl (by decide +kernel)
set_option maxRecDepth 65536 in
theorem w_c9 : (Jvm.Cond.code ({ cls := "java/lang/Exception", name := "<init>", desc := "(Ljava/lang/String;Ljava/lang/Throwable;)V" } : Jvm.MethodName) jdk_59_method_3_code (3 : Nat) (Option.none : Option Jvm.ClassFile.FieldType)).before args0 about1 = true := code_word (m := ⟨12, 1⟩) (meth := k12m1) (c := k12c1) (by decide +kernel) rfl rfl rfl (by decide +kernel)
set_option maxRecDepth 65536 in
theorem w_c10 : (Jvm.Cond.code ({ cls := "java/lang/Throwable", name := "<init>", desc := "(Ljava/lang/String;Ljava/lang/Throwable;)V" } : Jvm.MethodName) jdk_78_method_3_code (3 : Nat) (Option.none : Option Jvm.ClassFile.FieldType)).before args0 about1 = true := code_word (m := ⟨11, 1⟩) (meth := k11m1) (c := k11c1) (by decide +kernel) rfl rfl rfl (by decide +kernel)
set_option maxRecDepth 65536 in
theorem w_c11 : (Jvm.Cond.code ({ cls := "java/lang/Throwable", name := "<init>", desc := "()V" } : Jvm.MethodName) jdk_78_method_1_code (1 : Nat) (Option.none : Option Jvm.ClassFile.FieldType)).before args0 about1 = true := code_word (m := ⟨11, 0⟩) (meth := k11m0) (c := k11c0) (by decide +kernel) rfl rfl rfl (by decide +kernel)
set_option maxRecDepth 65536 in
theorem w_c12 : (Jvm.Cond.code ({ cls := "com/example/jetway/jetway/FetchException", name := "<init>", desc := "(Ljava/lang/String;Ljava/lang/Throwable;)V" } : Jvm.MethodName) prog_30_method_2_code (3 : Nat) (Option.none : Option Jvm.ClassFile.FieldType)).before args0 about1 = true := code_word (m := ⟨13, 1⟩) (meth := k13m1) (c := k13c1) (by decide +kernel) rfl rfl rfl (by decide +kernel)
set_option maxRecDepth 65536 in
theorem w_c13 : (Jvm.Cond.code ({ cls := "com/example/jetway/jetway/FetchException", name := "notFound", desc := "()Z" } : Jvm.MethodName) prog_30_method_5_code (1 : Nat) (Option.some Jvm.ClassFile.FieldType.boolean)).before args0 about1 = true := code_word (m := ⟨13, 4⟩) (meth := k13m4) (c := k13c4) (by decide +kernel) rfl rfl rfl (by decide +kernel)
set_option maxRecDepth 65536 in
theorem w_c14 : (Jvm.Cond.code ({ cls := "com/example/jetway/jetway/FetchException", name := "unreachable", desc := "()Z" } : Jvm.MethodName) prog_30_method_4_code (1 : Nat) (Option.some Jvm.ClassFile.FieldType.boolean)).before args0 about1 = true := code_word (m := ⟨13, 3⟩) (meth := k13m3) (c := k13c3) (by decide +kernel) rfl rfl rfl (by decide +kernel)
def codes1 : List Jvm.Cond := [Jvm.Cond.code x code maxLocals ret, Jvm.Cond.code ({ cls := "java/lang/String", name := "<init>", desc := "([C)V" } : Jvm.MethodName) jdk_42_method_3_code (2 : Nat) (Option.none : Option Jvm.ClassFile.FieldType), Jvm.Cond.code ({ cls := "java/lang/String", name := "<init>", desc := "([CIILjava/lang/Void;)V" } : Jvm.MethodName) jdk_42_method_149_code (6 : Nat) (Option.none : Option Jvm.ClassFile.FieldType), Jvm.Cond.code ({ cls := "java/lang/Object", name := "<init>", desc := "()V" } : Jvm.MethodName) object_method_1_code (1 : Nat) (Option.none : Option Jvm.ClassFile.FieldType), Jvm.Cond.code ({ cls := "java/lang/StringUTF16", name := "compress", desc := "([CII)[B" } : Jvm.MethodName) jdk_52_method_16_code (6 : Nat) (Option.some (Jvm.ClassFile.FieldType.array Jvm.ClassFile.FieldType.byte)), Jvm.Cond.code ({ cls := "java/lang/StringUTF16", name := "compress", desc := "([CI[BII)I" } : Jvm.MethodName) jdk_52_method_21_code (7 : Nat) (Option.some Jvm.ClassFile.FieldType.int), Jvm.Cond.code ({ cls := "java/lang/StringUTF16", name := "coderFromArrayLen", desc := "([BI)B" } : Jvm.MethodName) jdk_52_method_15_code (2 : Nat) (Option.some Jvm.ClassFile.FieldType.byte), Jvm.Cond.code ({ cls := "com/example/jetway/jetway/FetchException", name := "<init>", desc := "(Ljava/lang/String;)V" } : Jvm.MethodName) prog_30_method_1_code (2 : Nat) (Option.none : Option Jvm.ClassFile.FieldType), Jvm.Cond.code ({ cls := "com/example/jetway/jetway/FetchException", name := "<init>", desc := "(Ljava/lang/String;Ljava/lang/Throwable;Lcom/example/jetway/jetway/FetchException$Kind;)V" } : Jvm.MethodName) prog_30_method_3_code (4 : Nat) (Option.none : Option Jvm.ClassFile.FieldType), Jvm.Cond.code ({ cls := "java/lang/Exception", name := "<init>", desc := "(Ljava/lang/String;Ljava/lang/Throwable;)V" } : Jvm.MethodName) jdk_59_method_3_code (3 : Nat) (Option.none : Option Jvm.ClassFile.FieldType), Jvm.Cond.code ({ cls := "java/lang/Throwable", name := "<init>", desc := "(Ljava/lang/String;Ljava/lang/Throwable;)V" } : Jvm.MethodName) jdk_78_method_3_code (3 : Nat) (Option.none : Option Jvm.ClassFile.FieldType), Jvm.Cond.code ({ cls := "java/lang/Throwable", name := "<init>", desc := "()V" } : Jvm.MethodName) jdk_78_method_1_code (1 : Nat) (Option.none : Option Jvm.ClassFile.FieldType), Jvm.Cond.code ({ cls := "com/example/jetway/jetway/FetchException", name := "<init>", desc := "(Ljava/lang/String;Ljava/lang/Throwable;)V" } : Jvm.MethodName) prog_30_method_2_code (3 : Nat) (Option.none : Option Jvm.ClassFile.FieldType), Jvm.Cond.code ({ cls := "com/example/jetway/jetway/FetchException", name := "notFound", desc := "()Z" } : Jvm.MethodName) prog_30_method_5_code (1 : Nat) (Option.some Jvm.ClassFile.FieldType.boolean), Jvm.Cond.code ({ cls := "com/example/jetway/jetway/FetchException", name := "unreachable", desc := "()Z" } : Jvm.MethodName) prog_30_method_4_code (1 : Nat) (Option.some Jvm.ClassFile.FieldType.boolean)]
set_option maxRecDepth 65536 in
theorem codes_eq : words1.filter isCode = codes1 := rfl
theorem w_codes : ∀ c ∈ words1.filter isCode, c.before args0 about1 = true := by
  rw [codes_eq]
  intro c hc
  simp only [codes1, List.mem_cons, List.not_mem_nil, or_false] at hc
  rcases hc with rfl | rfl | rfl | rfl | rfl | rfl | rfl | rfl | rfl | rfl | rfl | rfl | rfl | rfl | rfl
  · exact w_c0
  · exact w_c1
  · exact w_c2
  · exact w_c3
  · exact w_c4
  · exact w_c5
  · exact w_c6
  · exact w_c7
  · exact w_c8
  · exact w_c9
  · exact w_c10
  · exact w_c11
  · exact w_c12
  · exact w_c13
  · exact w_c14
set_option maxRecDepth 65536 in
theorem w_t1 : (words1.take 24).all (fun c => isCode c || c.before args0 about1) = true := by decide +kernel
set_option maxRecDepth 65536 in
theorem w_t2 : ((words1.drop 24).take 24).all (fun c => isCode c || c.before args0 about1) = true := by decide +kernel
set_option maxRecDepth 65536 in
theorem w_t3 : (((words1.drop 24).drop 24).take 24).all (fun c => isCode c || c.before args0 about1) = true := by decide +kernel
set_option maxRecDepth 65536 in
theorem w_t4 : ((((words1.drop 24).drop 24).drop 24).take 24).all (fun c => isCode c || c.before args0 about1) = true := by decide +kernel
set_option maxRecDepth 65536 in
theorem w_t5 : ((((words1.drop 24).drop 24).drop 24).drop 24).all (fun c => isCode c || c.before args0 about1) = true := by decide +kernel
theorem w_tables : (allAtoms (Jvm.Cond.code x code maxLocals ret :: tables_1)).before args0 about1 = true := by
  rw [allAtoms_all]
  show words1.all (fun c => c.before args0 about1) = true
  refine all_split ?_ w_codes
  rw [← List.take_append_drop 24 words1, List.all_append, w_t1, ← List.take_append_drop 24 (words1.drop 24), List.all_append, w_t2, ← List.take_append_drop 24 ((words1.drop 24).drop 24), List.all_append, w_t3, ← List.take_append_drop 24 (((words1.drop 24).drop 24).drop 24), List.all_append, w_t4, w_t5]
  rfl
set_option maxRecDepth 65536 in
theorem w_rest : rest_1_c.before args0 about1 = true := by decide +kernel
set_option maxRecDepth 65536 in
theorem w_case : (Jvm.Cond.and given_1 narrow_1).before args0 about1 = true := by decide +kernel
theorem w_applies : (headSpec (Jvm.Cond.code x code maxLocals ret :: tables_1) room_1).applies x e0.platform about1 = true :=
  (Spec.applies_iff w_frames).mpr ⟨w_running, w_runnable, w_alone, w_named, w_hears, w_ripe, w_room, w_tables⟩
theorem atStart : AtStart classFile x code maxLocals ret World_1 tables_1 room_1 Calls_1 rest_1 Pre_1 launch0 p0 e0 about1 theMethod args0 below0 :=
  ⟨lists_1, trivial, launch0.admits_env _ _ _, launch0.least_env, fairChoices_fair.cas, fairChoices_fair.clock, w_frames, w_args, w_heap, w_applies, ⟨(by decide +kernel : framesKnown about1 = true), ⟨(by decide +kernel : tablesKnown about1 = true), trivial⟩⟩, w_rest, w_case⟩
end start1
theorem witness_1 : WitnessClaimed_1 := ⟨start1.p0, start1.e0, start1.about1, start1.theMethod, start1.args0, start1.below0, start1.atStart⟩
end Jvm.Pilot.@@N@@
