import JvmDerived
import JvmDerived.Pilot.@@N@@Statement
import JvmDerived.Pilot.@@N@@Code
set_option linter.unusedVariables false
set_option linter.unusedSimpArgs false
/- laws to paste: Road.backV, Road.codOf, Road.lenW, Road.chN (cut by pick.py; bodies as the Statement names them) -/
namespace Jvm.Pilot.@@N@@
namespace StrChars
open Jvm Sem ClassFile Op Lib Jvm.Stand Jvm.Free.XT Jvm.Free.ALB Jvm.Free.JM Jvm.Free
open Jvm.Lib.Cold (StaticIs)
/-- a char array whose places are chars -/
def Ch (a : Addr) (A : Cell) (U : State) : Prop := Arr .char a A U ∧ Typed .char A
theorem Ch.mv {a : Addr} {A : Cell} {U U' : State} (h : Ch a A U) (hal : U.vm.Alike U'.vm) (hh : U'.heap = U.heap) : Ch a A U' := ⟨h.1.mv hal hh, h.2⟩
theorem Ch.keep {a : Addr} {A : Cell} {U U' : State} (h : Ch a A U) (hal : U.vm.Alike U'.vm) (hk : U'.heap[a]? = some A) : Ch a A U' := ⟨h.1.keep hal hk, h.2⟩
/-- what place i of a char[]'s cell holds -/
def cv (A : Cell) (i : Nat) : Int32 := match A.slots[i]? with | some (.int x) => x | _ => 0
theorem Ch.get {a : Addr} {A : Cell} {U : State} (h : Ch a A U) {i : Nat} (hi : i < A.slots.size) : A.slots[i]? = some (.int (cv A i)) := by
  have e := Array.getElem?_eq_getElem hi
  have f := h.2 i _ e
  unfold cv; rw [e]
  generalize A.slots[i] = v at f
  cases v <;> simp [fits] at f ⊢
/-- the byte that i2b leaves of a char -/
def lo8 (x : Int32) : Int32 := x.toInt8.toInt32
theorem fits_lo8 (y : Int32) : fits .byte (.int (lo8 y)) = true := by
  have h1 := y.toInt8.le_toInt
  have h2 := y.toInt8.toInt_lt
  simp only [lo8, fits, Bool.and_eq_true, decide_eq_true_eq, Int32.le_iff_toInt_le, Int8.toInt_toInt32, show (-128 : Int32).toInt = -128 from by decide, show (127 : Int32).toInt = 127 from by decide]
  omega
/-- A' is A but that each place j of lo .. hi - 1 holds f j -/
def Laid (A A' : Cell) (lo hi : Nat) (f : Nat → Value) : Prop := A'.cls = A.cls ∧ A'.vm = A.vm ∧ A'.slots.size = A.slots.size ∧ ∀ i, A'.slots[i]? = if lo ≤ i ∧ i < hi then some (f i) else A.slots[i]?
theorem Laid.zero (A : Cell) (lo : Nat) (f : Nat → Value) : Laid A A lo (lo + 0) f := ⟨rfl, rfl, rfl, fun i => by rw [if_neg (by omega)]⟩
theorem Laid.step {A Ak : Cell} {lo k : Nat} {f : Nat → Value} {v : Value} (h : Laid A Ak lo k f) (hlo : lo ≤ k) (hk : k < Ak.slots.size) (hv : v = f k) : Laid A (Ak.setSlot k v) lo (k + 1) f := by
  refine ⟨h.1, h.2.1, by simpa [Cell.setSlot] using h.2.2.1, fun i => ?_⟩
  by_cases e : k = i
  · subst e; rw [Cell.slots_setSlot_self v hk, if_pos (by omega), hv]
  · rw [Cell.slots_setSlot_ne v e, h.2.2.2 i]
    by_cases q : lo ≤ i ∧ i < k
    · rw [if_pos q, if_pos (by omega)]
    · rw [if_neg q, if_neg (by omega)]
def U16 : String := "java/lang/StringUTF16"
namespace Cmp5
def yN : MethodName := ⟨"java/lang/StringUTF16", "compress", "([CI[BII)I"⟩
abbrev yB : ByteArray := jdk_52_method_21_code
theorem d0 : decode yB 0 = .ok (.iconst 0, 1) := by decide +kernel
theorem d1 : decode yB 1 = .ok (.istore 5, 2) := by decide +kernel
theorem d3 : decode yB 3 = .ok (.iload 5, 2) := by decide +kernel
theorem d5 : decode yB 5 = .ok (.iload 4, 2) := by decide +kernel
theorem d7 : decode yB 7 = .ok (.if_icmp (.ge) 37, 3) := by decide +kernel
theorem d10 : decode yB 10 = .ok (.aload_n 0, 1) := by decide +kernel
theorem d11 : decode yB 11 = .ok (.iload_n 1, 1) := by decide +kernel
theorem d12 : decode yB 12 = .ok (.caload, 1) := by decide +kernel
theorem d13 : decode yB 13 = .ok (.istore 6, 2) := by decide +kernel
theorem d15 : decode yB 15 = .ok (.iload 6, 2) := by decide +kernel
theorem d17 : decode yB 17 = .ok (.sipush 255, 3) := by decide +kernel
theorem d20 : decode yB 20 = .ok (.if_icmp (.le) 6, 3) := by decide +kernel
theorem d26 : decode yB 26 = .ok (.aload_n 2, 1) := by decide +kernel
theorem d27 : decode yB 27 = .ok (.iload_n 3, 1) := by decide +kernel
theorem d28 : decode yB 28 = .ok (.iload 6, 2) := by decide +kernel
theorem d30 : decode yB 30 = .ok (.i2b, 1) := by decide +kernel
theorem d31 : decode yB 31 = .ok (.bastore, 1) := by decide +kernel
theorem d32 : decode yB 32 = .ok (.iinc 1 1, 3) := by decide +kernel
theorem d35 : decode yB 35 = .ok (.iinc 3 1, 3) := by decide +kernel
theorem d38 : decode yB 38 = .ok (.iinc 5 1, 3) := by decide +kernel
theorem d41 : decode yB 41 = .ok (.goto (-38), 3) := by decide +kernel
theorem d44 : decode yB 44 = .ok (.iload 4, 2) := by decide +kernel
theorem d46 : decode yB 46 = .ok (.ireturn, 1) := by decide +kernel
def site : List Cond := []
def tab : Cond := tabOf yN yB 7 (some .int) site
def P (b : Addr) (A : Cell) (d : Addr) (B : Cell) (o q len : Nat) (args : Array Value) (s : State) : Prop := args = #[.ref b, .int (Int32.ofNat o), .ref d, .int (Int32.ofNat q), .int (Int32.ofNat len)] ∧ Ch b A s ∧ Arr .byte d B s ∧ b ≠ d ∧ o + len ≤ A.slots.size ∧ q + len ≤ B.slots.size ∧ ∀ i, i < len → ¬ 255 < cv A (o + i)
def E (b : Addr) (A : Cell) (d : Addr) (B : Cell) (o q len : Nat) (r : Option Value) (s u : State) : Prop := r = some (.int (Int32.ofNat len)) ∧ ∃ B', Put d B' s u ∧ Laid B B' q (q + len) (fun j => Value.int (lo8 (cv A (o + (j - q)))))
/-- no char of the range above 255: len; the places written hold each char's low byte -/
theorem law (l : Launch) (b : Addr) (A : Cell) (d : Addr) (B : Cell) (o q len : Nat) : Law l yN 5 5 0 0 yB 7 (some .int) site (P b A d B o q len) (E b A d B o q len) (copyLocs d q len) 0 0 := by
  refine Law.of_walk (plainFor_of_name (by decide +kernel)) (by decide +kernel) (by decide +kernel) (by decide) (fun _ _ h => by rw [h.1]; rfl) (fun _ U U' hal hh h => ⟨h.1, h.2.1.mv hal hh, h.2.2.1.mv hal hh, h.2.2.2⟩) (fun r U U' V V' h1 hal h2 h => ⟨h.1, h.2.elim fun B' q => ⟨B', q.1.mv h1 h2, q.2⟩⟩) ?_
  intro p e s m args below meth c s₁ X0 hexec hbytes hml hret hlk hnm hown hh0 W hP
  obtain ⟨rfl, hA, hB, hne, l1, l2, hp⟩ := hP
  have c1 : Steps p.tables e below (s₁.setTop (entryFrame m #[.ref b, .int (Int32.ofNat o), .ref d, .int (Int32.ofNat q), .int (Int32.ofNat len)] 7)) (s₁.setTop (mkF m 0 #[.val (.ref b), .val (.int (Int32.ofNat o)), .val (.ref d), .val (.int (Int32.ofNat q)), .val (.int (Int32.ofNat len)), .unset, .unset] [])) := entry rfl
  have hA0 := hA.1.mv X0.warmed.alike hh0
  have hB0 := hB.mv X0.warmed.alike hh0
  have a31 := hA.1.2.2.2
  have c2 : Steps p.tables e below (s₁.setTop (entryFrame m #[.ref b, .int (Int32.ofNat o), .ref d, .int (Int32.ofNat q), .int (Int32.ofNat len)] 7)) (s₁.setTop (mkF m 3 #[.val (.ref b), .val (.int (Int32.ofNat o)), .val (.ref d), .val (.int (Int32.ofNat q)), .val (.int (Int32.ofNat len)), .val (.int 0), .unset] [])) := c1.trans (by
    refine iconstV X0.here hexec rfl 0 (hb hbytes d0) (by decide) ?_
    refine XS.istore X0.here hexec rfl (hb hbytes d1) rfl rfl ?_
    exact Steps.refl _)
  have loop : ∀ (r i : Nat), i + r = len → ∀ (z : Slot), (z = .unset ∨ ∃ w, z = .val w ∧ w.category = 1) → ∀ (Tl : State) (Bk : Cell), Stand p l e { frames := 0, locals := 0, cells := 0, slots := 0 } s m #[.ref b, .int (Int32.ofNat o), .ref d, .int (Int32.ofNat q), .int (Int32.ofNat len)] below meth c Tl ([] ++ copyLocs d q i) 0 0 → Put d Bk s₁ Tl → Laid B Bk q (q + i) (fun j => Value.int (lo8 (cv A (o + (j - q))))) →
      Steps p.tables e below (s₁.setTop (entryFrame m #[.ref b, .int (Int32.ofNat o), .ref d, .int (Int32.ofNat q), .int (Int32.ofNat len)] 7)) (Tl.setTop (mkF m 3 #[.val (.ref b), .val (.int (Int32.ofNat (o + i))), .val (.ref d), .val (.int (Int32.ofNat (q + i))), .val (.int (Int32.ofNat len)), .val (.int (Int32.ofNat i)), z] [])) → ∃ (T' : State) (B' : Cell) (z' : Slot), Stand p l e { frames := 0, locals := 0, cells := 0, slots := 0 } s m #[.ref b, .int (Int32.ofNat o), .ref d, .int (Int32.ofNat q), .int (Int32.ofNat len)] below meth c T' ([] ++ copyLocs d q len) 0 0 ∧ Put d B' s₁ T' ∧ Laid B B' q (q + len) (fun j => Value.int (lo8 (cv A (o + (j - q))))) ∧
      Steps p.tables e below (s₁.setTop (entryFrame m #[.ref b, .int (Int32.ofNat o), .ref d, .int (Int32.ofNat q), .int (Int32.ofNat len)] 7)) (T'.setTop (mkF m 3 #[.val (.ref b), .val (.int (Int32.ofNat (o + len))), .val (.ref d), .val (.int (Int32.ofNat (q + len))), .val (.int (Int32.ofNat len)), .val (.int (Int32.ofNat len)), z'] [])) := by
    intro r
    induction r with
    | zero =>
      intro i hi z hz Tl Bk Xl pl fl cl
      have hil : i = len := by omega
      rw [hil] at Xl fl cl
      exact ⟨Tl, Bk, z, Xl, pl, fl, cl⟩
    | succ r ih =>
      intro i hi z hz Tl Bk Xl pl fl cl
      have all := X0.warmed.alike.symm.trans Xl.warmed.alike
      have hAl := hA0.keep all (pl.other hne hA0.1)
      have hBk := hB0.like all pl.1 fl.1 fl.2.1 fl.2.2.1
      have hlt : q + i < Bk.slots.size := by rw [fl.2.2.1]; omega
      have c3 : Steps p.tables e below (s₁.setTop (entryFrame m #[.ref b, .int (Int32.ofNat o), .ref d, .int (Int32.ofNat q), .int (Int32.ofNat len)] 7)) (Tl.setTop (mkF m 12 #[.val (.ref b), .val (.int (Int32.ofNat (o + i))), .val (.ref d), .val (.int (Int32.ofNat (q + i))), .val (.int (Int32.ofNat len)), .val (.int (Int32.ofNat i)), z] [.int (Int32.ofNat (o + i)), .ref b])) := cl.trans (by
        refine XS.iload Xl.here hexec rfl (hb hbytes d3) rfl ?_
        refine XS.iload Xl.here hexec rfl (hb hbytes d5) rfl ?_
        refine XS.icmpNo Xl.here hexec rfl (hb hbytes d7) rfl (ii_ge_f (lt32 (by omega) (by omega))) ?_
        refine XS.aloadN Xl.here hexec rfl (hb hbytes d10) rfl rfl ?_
        refine XS.iloadN Xl.here hexec rfl (hb hbytes d11) rfl ?_
        exact Steps.refl _)
      have c4 : Steps p.tables e below (s₁.setTop (entryFrame m #[.ref b, .int (Int32.ofNat o), .ref d, .int (Int32.ofNat q), .int (Int32.ofNat len)] 7)) (Tl.setTop (mkF m 13 #[.val (.ref b), .val (.int (Int32.ofNat (o + i))), .val (.ref d), .val (.int (Int32.ofNat (q + i))), .val (.int (Int32.ofNat len)), .val (.int (Int32.ofNat i)), z] [.int (cv A (o + i))])) := c3.trans (by
        refine Xl.aget hexec hAl rfl (hA.get (i := o + i) (by omega)) rfl rfl (hb hbytes d12) ?_
        exact Steps.refl _)
      have c5 : Steps p.tables e below (s₁.setTop (entryFrame m #[.ref b, .int (Int32.ofNat o), .ref d, .int (Int32.ofNat q), .int (Int32.ofNat len)] 7)) (Tl.setTop (mkF m 15 #[.val (.ref b), .val (.int (Int32.ofNat (o + i))), .val (.ref d), .val (.int (Int32.ofNat (q + i))), .val (.int (Int32.ofNat len)), .val (.int (Int32.ofNat i)), .val (.int (cv A (o + i)))] [])) := c4.trans (by
        refine XS.istoreS Xl.here hexec rfl (hb hbytes d13) rfl rfl hz ?_
        exact Steps.refl _)
      have c6 : Steps p.tables e below (s₁.setTop (entryFrame m #[.ref b, .int (Int32.ofNat o), .ref d, .int (Int32.ofNat q), .int (Int32.ofNat len)] 7)) (Tl.setTop (mkF m 31 #[.val (.ref b), .val (.int (Int32.ofNat (o + i))), .val (.ref d), .val (.int (Int32.ofNat (q + i))), .val (.int (Int32.ofNat len)), .val (.int (Int32.ofNat i)), .val (.int (cv A (o + i)))] [.int (lo8 (cv A (o + i))), .int (Int32.ofNat (q + i)), .ref d])) := c5.trans (by
        refine XS.iload Xl.here hexec rfl (hb hbytes d15) rfl ?_
        refine sipushV Xl.here hexec rfl 255 (hb hbytes d17) (by decide) ?_
        refine XS.icmpYes Xl.here hexec rfl (pc0 := 20) rfl (hb hbytes d20) rfl (ii_le_t (hp i (by omega))) (by decide) rfl ?_
        refine XS.aloadN Xl.here hexec rfl (hb hbytes d26) rfl rfl ?_
        refine XS.iloadN Xl.here hexec rfl (hb hbytes d27) rfl ?_
        refine XS.iload Xl.here hexec rfl (hb hbytes d28) rfl ?_
        refine i2b Xl.here hexec rfl (hb hbytes d30) rfl ?_
        exact Steps.refl _)
      obtain ⟨T7, X7, p7, st7⟩ := Xl.aput hexec hBk rfl hlt rfl (fits_lo8 (cv A (o + i))) (g := (mkF m 31 #[.val (.ref b), .val (.int (Int32.ofNat (o + i))), .val (.ref d), .val (.int (Int32.ofNat (q + i))), .val (.int (Int32.ofNat len)), .val (.int (Int32.ofNat i)), .val (.int (cv A (o + i)))] [.int (lo8 (cv A (o + i))), .int (Int32.ofNat (q + i)), .ref d])) rfl (rest := []) rfl (hb hbytes d31)
      have c8 : Steps p.tables e below (s₁.setTop (entryFrame m #[.ref b, .int (Int32.ofNat o), .ref d, .int (Int32.ofNat q), .int (Int32.ofNat len)] 7)) (T7.setTop (mkF m 32 #[.val (.ref b), .val (.int (Int32.ofNat (o + i))), .val (.ref d), .val (.int (Int32.ofNat (q + i))), .val (.int (Int32.ofNat len)), .val (.int (Int32.ofNat i)), .val (.int (cv A (o + i)))] [])) := c6.trans (st7 _ (Steps.refl _))
      have c9 : Steps p.tables e below (s₁.setTop (entryFrame m #[.ref b, .int (Int32.ofNat o), .ref d, .int (Int32.ofNat q), .int (Int32.ofNat len)] 7)) (T7.setTop (mkF m 3 #[.val (.ref b), .val (.int (Int32.ofNat (o + i) + 1)), .val (.ref d), .val (.int (Int32.ofNat (q + i) + 1)), .val (.int (Int32.ofNat len)), .val (.int (Int32.ofNat i + 1)), .val (.int (cv A (o + i)))] [])) := c8.trans (by
        refine iincV X7.here hexec rfl 1 (hb hbytes d32) (by decide) rfl rfl ?_
        refine iincV X7.here hexec rfl 1 (hb hbytes d35) (by decide) rfl rfl ?_
        refine iincV X7.here hexec rfl 1 (hb hbytes d38) (by decide) rfl rfl ?_
        refine XS.goto X7.here hexec rfl (pc0 := 41) rfl (hb hbytes d41) (by decide) rfl ?_
        exact Steps.refl _)
      have c10 : Steps p.tables e below (s₁.setTop (entryFrame m #[.ref b, .int (Int32.ofNat o), .ref d, .int (Int32.ofNat q), .int (Int32.ofNat len)] 7)) (T7.setTop (mkF m 3 #[.val (.ref b), .val (.int (Int32.ofNat (o + (i + 1)))), .val (.ref d), .val (.int (Int32.ofNat (q + (i + 1)))), .val (.int (Int32.ofNat len)), .val (.int (Int32.ofNat (i + 1))), .val (.int (cv A (o + i)))] [])) := by
        have := c9
        rw [succ32, succ32, succ32] at this
        exact this
      exact ih (i + 1) (by omega) _ (Or.inr ⟨_, rfl, rfl⟩) T7 _ (by rw [copyLocs_step, ← List.append_assoc]; exact X7) (pl.trans p7) (fl.step (by omega) hlt (by simp)) c10
  obtain ⟨T9, B9, z9, X9, p9, f9, g9⟩ := loop len 0 (by omega) .unset (Or.inl rfl) s₁ B (by simpa [copyLocs] using X0) ⟨hB0.1, fun _ _ => rfl, rfl⟩ (Laid.zero _ _ _) c2
  have c11 : Steps p.tables e below (s₁.setTop (entryFrame m #[.ref b, .int (Int32.ofNat o), .ref d, .int (Int32.ofNat q), .int (Int32.ofNat len)] 7)) (T9.setTop (mkF m 46 #[.val (.ref b), .val (.int (Int32.ofNat (o + len))), .val (.ref d), .val (.int (Int32.ofNat (q + len))), .val (.int (Int32.ofNat len)), .val (.int (Int32.ofNat len)), z9] [.int (Int32.ofNat len)])) := g9.trans (by
    refine XS.iload X9.here hexec rfl (hb hbytes d3) rfl ?_
    refine XS.iload X9.here hexec rfl (hb hbytes d5) rfl ?_
    refine XS.icmpYes X9.here hexec rfl (pc0 := 7) rfl (hb hbytes d7) rfl (ii_ge_t (nlt32 (by omega) (Nat.le_refl _))) (by decide) rfl ?_
    refine XS.iload X9.here hexec rfl (hb hbytes d44) rfl ?_
    exact Steps.refl _)
  exact ⟨T9, some (.int (Int32.ofNat len)), _, _, _, X9, by simp, rfl, rfl, (fun h => by cases h), ⟨rfl, B9, p9.from hh0, f9⟩, fun fs hl => c11.trans (X9.ireturnOut hexec hret rfl (Or.inl rfl) (hb hbytes d46) hl)⟩
end Cmp5
namespace Cmp3
def yN : MethodName := ⟨"java/lang/StringUTF16", "compress", "([CII)[B"⟩
abbrev yB : ByteArray := jdk_52_method_16_code
theorem d0 : decode yB 0 = .ok (.iload_n 2, 1) := by decide +kernel
theorem d1 : decode yB 1 = .ok (.newarray .byte, 2) := by decide +kernel
theorem d3 : decode yB 3 = .ok (.astore_n 3, 1) := by decide +kernel
theorem d4 : decode yB 4 = .ok (.aload_n 0, 1) := by decide +kernel
theorem d5 : decode yB 5 = .ok (.iload_n 1, 1) := by decide +kernel
theorem d6 : decode yB 6 = .ok (.aload_n 3, 1) := by decide +kernel
theorem d7 : decode yB 7 = .ok (.iconst 0, 1) := by decide +kernel
theorem d8 : decode yB 8 = .ok (.iload_n 2, 1) := by decide +kernel
theorem d9 : decode yB 9 = .ok (.invokestatic 115, 3) := by decide +kernel
theorem d12 : decode yB 12 = .ok (.istore 4, 2) := by decide +kernel
theorem d14 : decode yB 14 = .ok (.iload 4, 2) := by decide +kernel
theorem d16 : decode yB 16 = .ok (.iload_n 2, 1) := by decide +kernel
theorem d17 : decode yB 17 = .ok (.if_icmp (.eq) 40, 3) := by decide +kernel
theorem d57 : decode yB 57 = .ok (.aload_n 3, 1) := by decide +kernel
theorem d58 : decode yB 58 = .ok (.areturn, 1) := by decide +kernel
def site : List Cond := [.arrayClass .byte, Cmp5.tab] ++ staticW U16 115 Cmp5.yN
def tab : Cond := tabOf yN yB 6 (some (.array .byte)) site
def P (b : Addr) (A : Cell) (o len : Nat) (args : Array Value) (s : State) : Prop := args = #[.ref b, .int (Int32.ofNat o), .int (Int32.ofNat len)] ∧ Ch b A s ∧ o + len ≤ A.slots.size ∧ len ≤ 536870912 ∧ ∀ i, i < len → ¬ 255 < cv A (o + i)
def E (b : Addr) (A : Cell) (o len : Nat) (r : Option Value) (s u : State) : Prop := NewArr .byte "[B" len (fun j => .int (lo8 (cv A (o + j)))) r s u ∧ u.heap.size = s.heap.size + 1
/-- no char of the range above 255: a new byte[] of their low bytes -/
theorem law (l : Launch) (b : Addr) (A : Cell) (o len : Nat) : Law l yN 3 3 1 18 yB 6 (some (.array .byte)) site (P b A o len) (E b A o len) [] 1 len := by
  refine Law.of_walk (plainFor_of_name (by decide +kernel)) (by decide +kernel) (by decide +kernel) (by decide) (fun _ _ h => by rw [h.1]; rfl) (fun _ U U' hal hh h => ⟨h.1, h.2.1.mv hal hh, h.2.2⟩) (fun r U U' V V' h1 hal h2 h => ⟨NewArr.mv r U U' V V' h1 hal h2 h.1, by rw [h1, h2]; exact h.2⟩) ?_
  intro p e s m args below meth c s₁ X0 hexec hbytes hml hret hlk hnm hown hh0 W hP
  obtain ⟨rfl, hA, l1, l2, hp⟩ := hP
  have a31 := hA.1.2.2.2
  have c1 : Steps p.tables e below (s₁.setTop (entryFrame m #[.ref b, .int (Int32.ofNat o), .int (Int32.ofNat len)] 6)) (s₁.setTop (mkF m 0 #[.val (.ref b), .val (.int (Int32.ofNat o)), .val (.int (Int32.ofNat len)), .unset, .unset, .unset] [])) := entry rfl
  have c2 : Steps p.tables e below (s₁.setTop (entryFrame m #[.ref b, .int (Int32.ofNat o), .int (Int32.ofNat len)] 6)) (s₁.setTop (mkF m 1 #[.val (.ref b), .val (.int (Int32.ofNat o)), .val (.int (Int32.ofNat len)), .unset, .unset, .unset] [.int (Int32.ofNat len)])) := c1.trans (by
    refine XS.iloadN X0.here hexec rfl (hb hbytes d0) rfl ?_
    exact Steps.refl _)
  obtain ⟨T3, B3, X3, ba3, bs3, bv3, bh3, bf3, st3⟩ := X0.anew hexec (atype := .byte) (wk W (.arrayClass .byte)) rfl (by show len * 1 ≤ _; omega) (by omega) (g := (mkF m 1 #[.val (.ref b), .val (.int (Int32.ofNat o)), .val (.int (Int32.ofNat len)), .unset, .unset, .unset] [.int (Int32.ofNat len)])) rfl (hb hbytes d1) (rest := []) rfl (Nat.le_refl _) (by show 0 + len ≤ len; omega)
  rw [hh0] at ba3 st3
  have kp3 : XT.Kept s T3 := (XT.Kept.of_eq hh0).push bh3
  have hA3 := hA.keep X3.warmed.alike (kp3 _ _ hA.1.1)
  have hne : b ≠ s.heap.size := hA.1.ne
  have c4 : Steps p.tables e below (s₁.setTop (entryFrame m #[.ref b, .int (Int32.ofNat o), .int (Int32.ofNat len)] 6)) (T3.setTop (mkF m 3 #[.val (.ref b), .val (.int (Int32.ofNat o)), .val (.int (Int32.ofNat len)), .unset, .unset, .unset] [.ref s.heap.size])) := c2.trans (st3 _ (Steps.refl _))
  have c5 : Steps p.tables e below (s₁.setTop (entryFrame m #[.ref b, .int (Int32.ofNat o), .int (Int32.ofNat len)] 6)) (T3.setTop (mkF m 9 #[.val (.ref b), .val (.int (Int32.ofNat o)), .val (.int (Int32.ofNat len)), .val (.ref s.heap.size), .unset, .unset] [.int (Int32.ofNat len), .int 0, .ref s.heap.size, .int (Int32.ofNat o), .ref b])) := c4.trans (by
    refine XS.astoreN X3.here hexec rfl (hb hbytes d3) rfl rfl rfl ?_
    refine XS.aloadN X3.here hexec rfl (hb hbytes d4) rfl rfl ?_
    refine XS.iloadN X3.here hexec rfl (hb hbytes d5) rfl ?_
    refine XS.aloadN X3.here hexec rfl (hb hbytes d6) rfl rfl ?_
    refine iconstV X3.here hexec rfl 0 (hb hbytes d7) (by decide) ?_
    refine XS.iloadN X3.here hexec rfl (hb hbytes d8) rfl ?_
    exact Steps.refl _)
  obtain ⟨v6, T6, X6, E6, g6⟩ := X3.callS hexec (Cmp5.law l b A s.heap.size B3 o 0 len) hown (wks W (staticW U16 115 Cmp5.yN)) (wk W Cmp5.tab) (W := 0) (Nat.le_of_ble_eq_true rfl) (Nat.le_of_ble_eq_true rfl) (Nat.le_refl _) (by show 0 + len + 0 ≤ len; omega) (g := (mkF m 9 #[.val (.ref b), .val (.int (Int32.ofNat o)), .val (.int (Int32.ofNat len)), .val (.ref s.heap.size), .unset, .unset] [.int (Int32.ofNat len), .int (Int32.ofNat 0), .ref s.heap.size, .int (Int32.ofNat o), .ref b])) rfl (by rw [hml]; rfl) c5 (argsL := [.ref b, .int (Int32.ofNat o), .ref s.heap.size, .int (Int32.ofNat 0), .int (Int32.ofNat len)]) (rest := []) rfl rfl (by show 2 * 0 + 0 ≤ _; decide) (hb hbytes d9) (⟨rfl, hA3, ba3, hne, l1, by rw [bs3]; simp, hp⟩)
  obtain ⟨rfl, B6, p6, f6⟩ := E6
  have c7 : Steps p.tables e below (s₁.setTop (entryFrame m #[.ref b, .int (Int32.ofNat o), .int (Int32.ofNat len)] 6)) (T6.setTop (mkF m 12 #[.val (.ref b), .val (.int (Int32.ofNat o)), .val (.int (Int32.ofNat len)), .val (.ref s.heap.size), .unset, .unset] [.int (Int32.ofNat len)])) := g6
  have c8 : Steps p.tables e below (s₁.setTop (entryFrame m #[.ref b, .int (Int32.ofNat o), .int (Int32.ofNat len)] 6)) (T6.setTop (mkF m 58 #[.val (.ref b), .val (.int (Int32.ofNat o)), .val (.int (Int32.ofNat len)), .val (.ref s.heap.size), .val (.int (Int32.ofNat len)), .unset] [.ref s.heap.size])) := c7.trans (by
    refine XS.istore X6.here hexec rfl (hb hbytes d12) rfl rfl ?_
    refine XS.iload X6.here hexec rfl (hb hbytes d14) rfl ?_
    refine XS.iloadN X6.here hexec rfl (hb hbytes d16) rfl ?_
    refine XS.icmpYes X6.here hexec rfl (pc0 := 17) rfl (hb hbytes d17) rfl (ii_eq_t rfl) (by decide) rfl ?_
    refine XS.aloadN X6.here hexec rfl (hb hbytes d57) rfl rfl ?_
    exact Steps.refl _)
  have X8 := X6.wide (L' := []) (cells' := 1) (slots' := len) (fun x hx hlt => by
    simp only [List.nil_append, copyLocs, List.mem_map, List.mem_range] at hx
    obtain ⟨i, -, rfl⟩ := hx
    exact absurd hlt (Nat.lt_irrefl _)) (Nat.le_refl _) (by omega)
  exact ⟨T6, some (.ref s.heap.size), _, _, _, X8, rfl, rfl, rfl, (fun h => by cases h), ⟨⟨rfl, B6, ba3.like (X3.warmed.alike.symm.trans X6.warmed.alike) p6.1 f6.1 f6.2.1 f6.2.2.1, f6.2.1.trans bv3, by rw [X6.warmed.alike.findClass, f6.1]; exact bf3, by rw [f6.2.2.1, bs3]; simp, fun j hj => by rw [f6.2.2.2 j, if_pos (by omega)]; rfl, kp3.put p6 (Nat.le_refl _)⟩, by rw [p6.2.2, bh3, hh0]; simp⟩, fun fs hl => c8.trans (X8.areturnOut hexec rfl hret rfl (hb hbytes d58) hl)⟩
end Cmp3
namespace CodL
def yN : MethodName := ⟨"java/lang/StringUTF16", "coderFromArrayLen", "([BI)B"⟩
abbrev yB : ByteArray := jdk_52_method_15_code
theorem d0 : decode yB 0 = .ok (.iload_n 1, 1) := by decide +kernel
theorem d1 : decode yB 1 = .ok (.aload_n 0, 1) := by decide +kernel
theorem d2 : decode yB 2 = .ok (.arraylength, 1) := by decide +kernel
theorem d3 : decode yB 3 = .ok (.isub, 1) := by decide +kernel
theorem d4 : decode yB 4 = .ok (.bipush 31, 2) := by decide +kernel
theorem d6 : decode yB 6 = .ok (.iushr, 1) := by decide +kernel
theorem d7 : decode yB 7 = .ok (.i2b, 1) := by decide +kernel
theorem d8 : decode yB 8 = .ok (.ireturn, 1) := by decide +kernel
def site : List Cond := []
def tab : Cond := tabOf yN yB 2 (some .byte) site
def P (d : Addr) (B : Cell) (args : Array Value) (s : State) : Prop := args = #[.ref d, .int (Int32.ofNat B.slots.size)] ∧ Arr .byte d B s
def E (r : Option Value) (s u : State) : Prop := XT.PureE (some (.int 0)) r s u
/-- an array as long as the number of chars: LATIN1 -/
theorem law (l : Launch) (d : Addr) (B : Cell) : Law l yN 2 2 0 0 yB 2 (some .byte) site (P d B) E [] 0 0 := by
  refine Law.of_walk (plainFor_of_name (by decide +kernel)) (by decide +kernel) (by decide +kernel) (by decide) (fun _ _ h => by rw [h.1]; rfl) (fun _ U U' hal hh h => ⟨h.1, h.2.mv hal hh⟩) (fun r U U' V V' h1 hal h2 h => XT.PureE.mv r U U' V V' h1 hal h2 h) ?_
  intro p e s m args below meth c s₁ X0 hexec hbytes hml hret hlk hnm hown hh0 W hP
  obtain ⟨rfl, hB⟩ := hP
  have hB0 := hB.mv X0.warmed.alike hh0
  have c1 : Steps p.tables e below (s₁.setTop (entryFrame m #[.ref d, .int (Int32.ofNat B.slots.size)] 2)) (s₁.setTop (mkF m 0 #[.val (.ref d), .val (.int (Int32.ofNat B.slots.size))] [])) := entry rfl
  have c2 : Steps p.tables e below (s₁.setTop (entryFrame m #[.ref d, .int (Int32.ofNat B.slots.size)] 2)) (s₁.setTop (mkF m 2 #[.val (.ref d), .val (.int (Int32.ofNat B.slots.size))] [.ref d, .int (Int32.ofNat B.slots.size)])) := c1.trans (by
    refine XS.iloadN X0.here hexec rfl (hb hbytes d0) rfl ?_
    refine XS.aloadN X0.here hexec rfl (hb hbytes d1) rfl rfl ?_
    exact Steps.refl _)
  have c3 : Steps p.tables e below (s₁.setTop (entryFrame m #[.ref d, .int (Int32.ofNat B.slots.size)] 2)) (s₁.setTop (mkF m 8 #[.val (.ref d), .val (.int (Int32.ofNat B.slots.size))] [.int (lo8 (ushr (Int32.ofNat B.slots.size - Int32.ofNat B.slots.size) 31))])) := c2.trans (by
    refine X0.alen hexec hB0 rfl rfl (hb hbytes d2) ?_
    refine XS.isub X0.here hexec rfl (hb hbytes d3) rfl ?_
    refine bipushV X0.here hexec rfl 31 (hb hbytes d4) (by decide) ?_
    refine iushr X0.here hexec rfl (hb hbytes d6) rfl ?_
    refine i2b X0.here hexec rfl (hb hbytes d7) rfl ?_
    exact Steps.refl _)
  have e0 : lo8 (ushr (Int32.ofNat B.slots.size - Int32.ofNat B.slots.size) 31) = 0 := by rw [Int32.sub_self]; decide
  rw [e0] at c3
  exact ⟨s₁, some (.int 0), _, _, _, X0, rfl, rfl, rfl, (fun h => by cases h), ⟨rfl, hh0⟩, fun fs hl => c3.trans (X0.ireturnOut hexec hret rfl (Or.inr (Or.inr (Or.inl rfl))) (hb hbytes d8) hl)⟩
end CodL
/-- the String at a is Latin-1 over a new byte[] (the heap's one new cell): the low bytes of the len chars of A from o on; every cell but a is kept -/
def Got (a : Addr) (D : Cell) (fV fC : Field) (A : Cell) (o len : Nat) (r : Option Value) (s u : State) : Prop := r = none ∧ ∃ D' V : Cell, Blank "java/lang/String" a D' u ∧ Same D D' [fV.slot, fC.slot] ∧ D'.slots[fV.slot]? = some (.ref s.heap.size) ∧ D'.slots[fC.slot]? = some (.int 0) ∧ Arr .byte s.heap.size V u ∧ V.vm = .none ∧ u.vm.findClass "[B" = some V.cls ∧ V.slots.size = len ∧ (∀ j, j < len → V.slots[j]? = some (.int (lo8 (cv A (o + j))))) ∧ (∀ (y : Addr) (c : Cell), y ≠ a → s.heap[y]? = some c → u.heap[y]? = some c) ∧ u.heap.size = s.heap.size + 1
theorem Got.mv {a : Addr} {D A : Cell} {fV fC : Field} {o len : Nat} : ∀ r (U U' V V' : State), U'.heap = U.heap → V.vm.Alike V'.vm → V'.heap = V.heap → Got a D fV fC A o len r U V → Got a D fV fC A o len r U' V' :=
  fun r U U' V V' h1 hal h2 ⟨e0, D', X, a1, a2, a3, a4, a5, a6, a7, a8, a9, a10, a11⟩ => ⟨e0, D', X, a1.mv hal h2, a2, by rw [h1]; exact a3, a4, by rw [h1]; exact a5.mv hal h2, a6, by rw [hal.findClass]; exact a7, a8, a9, by rw [h1, h2]; exact a10, by rw [h1, h2]; exact a11⟩
namespace New4
def yN : MethodName := ⟨"java/lang/String", "<init>", "([CIILjava/lang/Void;)V"⟩
abbrev yB : ByteArray := jdk_42_method_149_code
theorem d0 : decode yB 0 = .ok (.aload_n 0, 1) := by decide +kernel
theorem d1 : decode yB 1 = .ok (.invokespecial 1, 3) := by decide +kernel
theorem d4 : decode yB 4 = .ok (.iload_n 3, 1) := by decide +kernel
theorem d5 : decode yB 5 = .ok (.ifCond (.ne) 22, 3) := by decide +kernel
theorem d27 : decode yB 27 = .ok (.getstatic 38, 3) := by decide +kernel
theorem d30 : decode yB 30 = .ok (.ifCond (.eq) 28, 3) := by decide +kernel
theorem d33 : decode yB 33 = .ok (.aload_n 1, 1) := by decide +kernel
theorem d34 : decode yB 34 = .ok (.iload_n 2, 1) := by decide +kernel
theorem d35 : decode yB 35 = .ok (.iload_n 3, 1) := by decide +kernel
theorem d36 : decode yB 36 = .ok (.invokestatic 177, 3) := by decide +kernel
theorem d39 : decode yB 39 = .ok (.astore 5, 2) := by decide +kernel
theorem d41 : decode yB 41 = .ok (.aload_n 0, 1) := by decide +kernel
theorem d42 : decode yB 42 = .ok (.aload 5, 2) := by decide +kernel
theorem d44 : decode yB 44 = .ok (.iload_n 3, 1) := by decide +kernel
theorem d45 : decode yB 45 = .ok (.invokestatic 47, 3) := by decide +kernel
theorem d48 : decode yB 48 = .ok (.putfield 15, 3) := by decide +kernel
theorem d51 : decode yB 51 = .ok (.aload_n 0, 1) := by decide +kernel
theorem d52 : decode yB 52 = .ok (.aload 5, 2) := by decide +kernel
theorem d54 : decode yB 54 = .ok (.putfield 9, 3) := by decide +kernel
theorem d57 : decode yB 57 = .ok (.return_, 1) := by decide +kernel
def site : List Cond := [.fieldLink "java/lang/String" 38 "java/lang/String" "COMPACT_STRINGS" "Z", Cmp3.tab, CodL.tab, .laysFinal "java/lang/String" "java/lang/String" "value" "[B", .fieldLink "java/lang/String" 9 "java/lang/String" "value" "[B", .laysFinal "java/lang/String" "java/lang/String" "coder" "B", .fieldLink "java/lang/String" 15 "java/lang/String" "coder" "B"] ++ objW "java/lang/String" 1 ++ staticW "java/lang/String" 177 Cmp3.yN ++ staticW "java/lang/String" 47 CodL.yN
def tab : Cond := tabOf yN yB 6 none site
def P (a : Addr) (D : Cell) (fV fC : Field) (b : Addr) (A : Cell) (z : Int32) (o len : Nat) (args : Array Value) (s : State) : Prop := args = #[.ref a, .ref b, .int (Int32.ofNat o), .int (Int32.ofNat len), .null] ∧ Blank "java/lang/String" a D s ∧ Found "java/lang/String" "value" "[B" fV s ∧ Found "java/lang/String" "coder" "B" fC s ∧ Ch b A s ∧ StaticIs s "java/lang/String" "COMPACT_STRINGS" "Z" (.int z) ∧ ¬ z = 0 ∧ 0 < len ∧ o + len ≤ A.slots.size ∧ len ≤ 536870912 ∧ ∀ i, i < len → ¬ 255 < cv A (o + i)
def E (a : Addr) (D : Cell) (fV fC : Field) (A : Cell) (o len : Nat) (r : Option Value) (s u : State) : Prop := Got a D fV fC A o len r s u
/-- len > 0, no char of the range above 255: a Latin-1 String of their low bytes -/
theorem law (l : Launch) (a : Addr) (D : Cell) (fV fC : Field) (b : Addr) (A : Cell) (z : Int32) (o len : Nat) : Law l yN 5 4 2 35 yB 6 none site (P a D fV fC b A z o len) (E a D fV fC A o len) [⟨a, fC.slot⟩, ⟨a, fV.slot⟩] 1 len := by
  refine Law.of_walk (plainFor_of_name (by decide +kernel)) (by decide +kernel) (by decide +kernel) (by decide) (fun _ _ h => by rw [h.1]; rfl) (fun _ U U' hal hh h => ⟨h.1, h.2.1.mv hal hh, h.2.2.1.al hal, h.2.2.2.1.al hal, h.2.2.2.2.1.mv hal hh, h.2.2.2.2.2.1.there hal hh, h.2.2.2.2.2.2⟩) (fun r U U' V V' h1 hal h2 h => Got.mv r U U' V V' h1 hal h2 h) ?_
  intro p e s m args below meth c s₁ X0 hexec hbytes hml hret hlk hnm hown hh0 W hP
  obtain ⟨rfl, hB, f1, f2, hA, s1, hz, l0, l1, l2, hp⟩ := hP
  have a31 := hA.1.2.2.2
  have c1 : Steps p.tables e below (s₁.setTop (entryFrame m #[.ref a, .ref b, .int (Int32.ofNat o), .int (Int32.ofNat len), .null] 6)) (s₁.setTop (mkF m 0 #[.val (.ref a), .val (.ref b), .val (.int (Int32.ofNat o)), .val (.int (Int32.ofNat len)), .val .null, .unset] [])) := entry rfl
  have c2 : Steps p.tables e below (s₁.setTop (entryFrame m #[.ref a, .ref b, .int (Int32.ofNat o), .int (Int32.ofNat len), .null] 6)) (s₁.setTop (mkF m 1 #[.val (.ref a), .val (.ref b), .val (.int (Int32.ofNat o)), .val (.int (Int32.ofNat len)), .val .null, .unset] [.ref a])) := c1.trans (by
    refine XS.aloadN X0.here hexec rfl (hb hbytes d0) rfl rfl ?_
    exact Steps.refl _)
  obtain ⟨T3, X3, q3, st3⟩ := X0.oinit hexec hown (wks W (objW "java/lang/String" 1)) (g := (mkF m 1 #[.val (.ref a), .val (.ref b), .val (.int (Int32.ofNat o)), .val (.int (Int32.ofNat len)), .val .null, .unset] [.ref a])) rfl (by rw [hml]; rfl) (rest := []) rfl (hb hbytes d1) (W := 0) (by show 2 * 0 + 0 ≤ _; decide) (Nat.le_of_ble_eq_true rfl) (Nat.le_of_ble_eq_true rfl)
  have hh3 := q3.trans hh0
  have c4 : Steps p.tables e below (s₁.setTop (entryFrame m #[.ref a, .ref b, .int (Int32.ofNat o), .int (Int32.ofNat len), .null] 6)) (T3.setTop (mkF m 27 #[.val (.ref a), .val (.ref b), .val (.int (Int32.ofNat o)), .val (.int (Int32.ofNat len)), .val .null, .unset] [])) := (c2.trans (st3 _ (Steps.refl _))).trans (by
    refine XS.iloadN X3.here hexec rfl (hb hbytes d4) rfl ?_
    refine XS.ifYes X3.here hexec rfl (pc0 := 5) rfl (hb hbytes d5) rfl (i0_ne_t (nz32 (by omega) l0)) (by decide) rfl ?_
    exact Steps.refl _)
  obtain ⟨T5, X5, q5, st5⟩ := X3.sget hexec hown (wk W (.fieldLink "java/lang/String" 38 "java/lang/String" "COMPACT_STRINGS" "Z")) s1 (fun _ _ h => by rw [hh3]; exact h) (g := (mkF m 27 #[.val (.ref a), .val (.ref b), .val (.int (Int32.ofNat o)), .val (.int (Int32.ofNat len)), .val .null, .unset] [])) rfl (hb hbytes d27)
  have hh5 := q5.trans hh3
  have c6 : Steps p.tables e below (s₁.setTop (entryFrame m #[.ref a, .ref b, .int (Int32.ofNat o), .int (Int32.ofNat len), .null] 6)) (T5.setTop (mkF m 30 #[.val (.ref a), .val (.ref b), .val (.int (Int32.ofNat o)), .val (.int (Int32.ofNat len)), .val .null, .unset] [.int z])) := c4.trans (st5 _ (Steps.refl _))
  have c7 : Steps p.tables e below (s₁.setTop (entryFrame m #[.ref a, .ref b, .int (Int32.ofNat o), .int (Int32.ofNat len), .null] 6)) (T5.setTop (mkF m 36 #[.val (.ref a), .val (.ref b), .val (.int (Int32.ofNat o)), .val (.int (Int32.ofNat len)), .val .null, .unset] [.int (Int32.ofNat len), .int (Int32.ofNat o), .ref b])) := c6.trans (by
    refine XS.ifNo X5.here hexec rfl (hb hbytes d30) rfl (i0_eq_f hz) ?_
    refine XS.aloadN X5.here hexec rfl (hb hbytes d33) rfl rfl ?_
    refine XS.iloadN X5.here hexec rfl (hb hbytes d34) rfl ?_
    refine XS.iloadN X5.here hexec rfl (hb hbytes d35) rfl ?_
    exact Steps.refl _)
  obtain ⟨v8, T8, X8, E8, g8⟩ := X5.callS hexec (Cmp3.law l b A o len) hown (wks W (staticW "java/lang/String" 177 Cmp3.yN)) (wk W Cmp3.tab) (W := 0) (Nat.le_of_ble_eq_true rfl) (Nat.le_of_ble_eq_true rfl) (Nat.le_refl _) (by show 0 + len ≤ len; omega) (g := (mkF m 36 #[.val (.ref a), .val (.ref b), .val (.int (Int32.ofNat o)), .val (.int (Int32.ofNat len)), .val .null, .unset] [.int (Int32.ofNat len), .int (Int32.ofNat o), .ref b])) rfl (by rw [hml]; rfl) c7 (argsL := [.ref b, .int (Int32.ofNat o), .int (Int32.ofNat len)]) (rest := []) rfl rfl (by show 2 * 0 + 0 ≤ _; decide) (hb hbytes d36) (⟨rfl, hA.mv X5.warmed.alike hh5, l1, l2, hp⟩)
  obtain ⟨e8, z8⟩ := E8
  obtain ⟨rfl, N, n1, n2, n3, n4, n5, n6⟩ := NewArr.mv _ T5 s _ _ hh5.symm (Vm.Alike.refl _) rfl e8
  rw [hh5] at z8
  have hB1 := hB.keep X8.warmed.alike (n6 _ _ hB.1)
  have hne : s.heap.size ≠ a := (Nat.ne_of_lt (Array.getElem?_eq_some_iff.mp hB.1).1).symm
  have c9 : Steps p.tables e below (s₁.setTop (entryFrame m #[.ref a, .ref b, .int (Int32.ofNat o), .int (Int32.ofNat len), .null] 6)) (T8.setTop (mkF m 39 #[.val (.ref a), .val (.ref b), .val (.int (Int32.ofNat o)), .val (.int (Int32.ofNat len)), .val .null, .unset] [.ref s.heap.size])) := g8
  have c10 : Steps p.tables e below (s₁.setTop (entryFrame m #[.ref a, .ref b, .int (Int32.ofNat o), .int (Int32.ofNat len), .null] 6)) (T8.setTop (mkF m 45 #[.val (.ref a), .val (.ref b), .val (.int (Int32.ofNat o)), .val (.int (Int32.ofNat len)), .val .null, .val (.ref s.heap.size)] [.int (Int32.ofNat N.slots.size), .ref s.heap.size, .ref a])) := by
    have hc : Steps p.tables e below (s₁.setTop (entryFrame m #[.ref a, .ref b, .int (Int32.ofNat o), .int (Int32.ofNat len), .null] 6)) (T8.setTop (mkF m 45 #[.val (.ref a), .val (.ref b), .val (.int (Int32.ofNat o)), .val (.int (Int32.ofNat len)), .val .null, .val (.ref s.heap.size)] [.int (Int32.ofNat len), .ref s.heap.size, .ref a])) := c9.trans (by
      refine XS.astore X8.here hexec rfl (hb hbytes d39) rfl rfl rfl ?_
      refine XS.aloadN X8.here hexec rfl (hb hbytes d41) rfl rfl ?_
      refine XS.aload X8.here hexec rfl (hb hbytes d42) rfl rfl ?_
      refine XS.iloadN X8.here hexec rfl (hb hbytes d44) rfl ?_
      exact Steps.refl _)
    rw [n4]; exact hc
  obtain ⟨v11, T11, X11, E11, g11⟩ := X8.callS hexec (CodL.law l s.heap.size N) hown (wks W (staticW "java/lang/String" 47 CodL.yN)) (wk W CodL.tab) (W := 1) (Nat.le_of_ble_eq_true rfl) (Nat.le_of_ble_eq_true rfl) (Nat.le_refl _) (by show 0 + len + 0 ≤ len; omega) (g := (mkF m 45 #[.val (.ref a), .val (.ref b), .val (.int (Int32.ofNat o)), .val (.int (Int32.ofNat len)), .val .null, .val (.ref s.heap.size)] [.int (Int32.ofNat N.slots.size), .ref s.heap.size, .ref a])) rfl (by rw [hml]; rfl) c10 (argsL := [.ref s.heap.size, .int (Int32.ofNat N.slots.size)]) (rest := [.ref a]) rfl rfl (by show 2 * 0 + (1 + 0) ≤ _; decide) (hb hbytes d45) (⟨rfl, n1⟩)
  obtain ⟨rfl, q11⟩ := E11
  have hB11 := hB1.mv (X8.warmed.alike.symm.trans X11.warmed.alike) q11
  have c12 : Steps p.tables e below (s₁.setTop (entryFrame m #[.ref a, .ref b, .int (Int32.ofNat o), .int (Int32.ofNat len), .null] 6)) (T11.setTop (mkF m 48 #[.val (.ref a), .val (.ref b), .val (.int (Int32.ofNat o)), .val (.int (Int32.ofNat len)), .val .null, .val (.ref s.heap.size)] [.int 0, .ref a])) := g11
  obtain ⟨T13, X13, p13, bl13, sl13, st13⟩ := X11.finit hexec hown (wk W (.fieldLink "java/lang/String" 15 "java/lang/String" "coder" "B")) (Or.inr ⟨_, (wk W (.laysFinal "java/lang/String" "java/lang/String" "coder" "B"))⟩) (Or.inl ⟨rfl, hnm⟩) f2 (Or.inl rfl) hB11 (t := .byte) (by decide +kernel) rfl (g := (mkF m 48 #[.val (.ref a), .val (.ref b), .val (.int (Int32.ofNat o)), .val (.int (Int32.ofNat len)), .val .null, .val (.ref s.heap.size)] [.int 0, .ref a])) rfl (rest := []) rfl (hb hbytes d48)
  have c14 : Steps p.tables e below (s₁.setTop (entryFrame m #[.ref a, .ref b, .int (Int32.ofNat o), .int (Int32.ofNat len), .null] 6)) (T13.setTop (mkF m 54 #[.val (.ref a), .val (.ref b), .val (.int (Int32.ofNat o)), .val (.int (Int32.ofNat len)), .val .null, .val (.ref s.heap.size)] [.ref s.heap.size, .ref a])) := (c12.trans (st13 _ (Steps.refl _))).trans (by
    refine XS.aloadN X13.here hexec rfl (hb hbytes d51) rfl rfl ?_
    refine XS.aload X13.here hexec rfl (hb hbytes d52) rfl rfl ?_
    exact Steps.refl _)
  obtain ⟨T15, X15, p15, bl15, sl15, st15⟩ := X13.finit hexec hown (wk W (.fieldLink "java/lang/String" 9 "java/lang/String" "value" "[B")) (Or.inr ⟨_, (wk W (.laysFinal "java/lang/String" "java/lang/String" "value" "[B"))⟩) (Or.inl ⟨rfl, hnm⟩) f1 (Or.inl rfl) bl13 (t := (.array .byte)) (by decide +kernel) rfl (g := (mkF m 54 #[.val (.ref a), .val (.ref b), .val (.int (Int32.ofNat o)), .val (.int (Int32.ofNat len)), .val .null, .val (.ref s.heap.size)] [.ref s.heap.size, .ref a])) rfl (rest := []) rfl (hb hbytes d54)
  have c16 : Steps p.tables e below (s₁.setTop (entryFrame m #[.ref a, .ref b, .int (Int32.ofNat o), .int (Int32.ofNat len), .null] 6)) (T15.setTop (mkF m 57 #[.val (.ref a), .val (.ref b), .val (.int (Int32.ofNat o)), .val (.int (Int32.ofNat len)), .val .null, .val (.ref s.heap.size)] [])) := c14.trans (st15 _ (Steps.refl _))
  have ap := apart (Or.inr ⟨_, (wk W (.laysFinal "java/lang/String" "java/lang/String" "value" "[B"))⟩) (Or.inr ⟨_, (wk W (.laysFinal "java/lang/String" "java/lang/String" "coder" "B"))⟩) f1 f2 (t₁ := .array .byte) (t₂ := .byte) (by decide +kernel) (by decide +kernel) (by decide)
  have al := X8.warmed.alike.symm.trans X15.warmed.alike
  have n7 : T11.heap[s.heap.size]? = some N := by rw [q11]; exact n1.1
  exact ⟨T15, none, _, _, _, X15, by simp, rfl, by omega, (fun _ => rfl), ⟨rfl, _, N, bl15, ((Same.refl D _).set _ (by simp)).set _ (by simp), sl15, (Cell.slots_setSlot_ne _ ap).trans sl13, n1.keep al (p15.other hne (p13.other hne n7)), n2, by rw [al.findClass]; exact n3, n4, n5, fun y c h1 h2 => p15.other h1 (p13.other h1 (by rw [q11]; exact n6 y c h2)), by rw [p15.2.2, p13.2.2, q11]; exact z8⟩, fun fs hl => c16.trans (X15.returnOut hexec hret (hb hbytes d57) hl)⟩
end New4
namespace New1
def yN : MethodName := ⟨"java/lang/String", "<init>", "([C)V"⟩
abbrev yB : ByteArray := jdk_42_method_3_code
theorem d0 : decode yB 0 = .ok (.aload_n 0, 1) := by decide +kernel
theorem d1 : decode yB 1 = .ok (.aload_n 1, 1) := by decide +kernel
theorem d2 : decode yB 2 = .ok (.iconst 0, 1) := by decide +kernel
theorem d3 : decode yB 3 = .ok (.aload_n 1, 1) := by decide +kernel
theorem d4 : decode yB 4 = .ok (.arraylength, 1) := by decide +kernel
theorem d5 : decode yB 5 = .ok (.aconst_null, 1) := by decide +kernel
theorem d6 : decode yB 6 = .ok (.invokespecial 27, 3) := by decide +kernel
theorem d9 : decode yB 9 = .ok (.return_, 1) := by decide +kernel
def site : List Cond := [New4.tab] ++ initW "java/lang/String" 27 New4.yN
def tab : Cond := tabOf yN yB 2 none site
def P (a : Addr) (D : Cell) (fV fC : Field) (b : Addr) (A : Cell) (z : Int32) (args : Array Value) (s : State) : Prop := args = #[.ref a, .ref b] ∧ Blank "java/lang/String" a D s ∧ Found "java/lang/String" "value" "[B" fV s ∧ Found "java/lang/String" "coder" "B" fC s ∧ Ch b A s ∧ StaticIs s "java/lang/String" "COMPACT_STRINGS" "Z" (.int z) ∧ ¬ z = 0 ∧ 0 < A.slots.size ∧ A.slots.size ≤ 536870912 ∧ ∀ i, i < A.slots.size → ¬ 255 < cv A i
def E (a : Addr) (D : Cell) (fV fC : Field) (A : Cell) (r : Option Value) (s u : State) : Prop := Got a D fV fC A 0 A.slots.size r s u
/-- new String(chars), not empty, no char above 255: a Latin-1 String of their low bytes -/
theorem law (l : Launch) (a : Addr) (D : Cell) (fV fC : Field) (b : Addr) (A : Cell) (z : Int32) : Law l yN 2 1 3 52 yB 2 none site (P a D fV fC b A z) (E a D fV fC A) [⟨a, fC.slot⟩, ⟨a, fV.slot⟩] 1 A.slots.size := by
  refine Law.of_walk (plainFor_of_name (by decide +kernel)) (by decide +kernel) (by decide +kernel) (by decide) (fun _ _ h => by rw [h.1]; rfl) (fun _ U U' hal hh h => ⟨h.1, h.2.1.mv hal hh, h.2.2.1.al hal, h.2.2.2.1.al hal, h.2.2.2.2.1.mv hal hh, h.2.2.2.2.2.1.there hal hh, h.2.2.2.2.2.2⟩) (fun r U U' V V' h1 hal h2 h => Got.mv r U U' V V' h1 hal h2 h) ?_
  intro p e s m args below meth c s₁ X0 hexec hbytes hml hret hlk hnm hown hh0 W hP
  obtain ⟨rfl, hB, f1, f2, hA, s1, hz, l0, l2, hp⟩ := hP
  have c1 : Steps p.tables e below (s₁.setTop (entryFrame m #[.ref a, .ref b] 2)) (s₁.setTop (mkF m 0 #[.val (.ref a), .val (.ref b)] [])) := entry rfl
  have c2 : Steps p.tables e below (s₁.setTop (entryFrame m #[.ref a, .ref b] 2)) (s₁.setTop (mkF m 6 #[.val (.ref a), .val (.ref b)] [.null, .int (Int32.ofNat A.slots.size), .int 0, .ref b, .ref a])) := c1.trans (by
    refine XS.aloadN X0.here hexec rfl (hb hbytes d0) rfl rfl ?_
    refine XS.aloadN X0.here hexec rfl (hb hbytes d1) rfl rfl ?_
    refine iconstV X0.here hexec rfl 0 (hb hbytes d2) (by decide) ?_
    refine XS.aloadN X0.here hexec rfl (hb hbytes d3) rfl rfl ?_
    refine X0.alen hexec (hA.1.mv X0.warmed.alike hh0) rfl rfl (hb hbytes d4) ?_
    refine XS.aconstNull X0.here hexec rfl (hb hbytes d5) ?_
    exact Steps.refl _)
  obtain ⟨v3, T3, X3, E3, g3⟩ := X0.callN hexec (New4.law l a D fV fC b A z 0 A.slots.size) rfl hown (wks W (initW "java/lang/String" 27 New4.yN)) (W New4.tab (by simp only [site, List.mem_cons, List.mem_append, true_or, or_true])) (W := 0) (Nat.le_of_ble_eq_true rfl) (Nat.le_of_ble_eq_true rfl) (Nat.le_refl _) (by show 0 + A.slots.size ≤ A.slots.size; omega) (g := (mkF m 6 #[.val (.ref a), .val (.ref b)] [.null, .int (Int32.ofNat A.slots.size), .int (Int32.ofNat 0), .ref b, .ref a])) rfl (by rw [hml]; rfl) c2 (argsL := [.ref b, .int (Int32.ofNat 0), .int (Int32.ofNat A.slots.size), .null]) (rest := []) rfl rfl (by show 2 * 0 + 0 ≤ _; decide) (hb hbytes d6) (⟨rfl, hB.mv X0.warmed.alike hh0, f1.al X0.warmed.alike, f2.al X0.warmed.alike, hA.mv X0.warmed.alike hh0, s1.there X0.warmed.alike hh0, hz, l0, by omega, l2, fun i hi => by rw [Nat.zero_add]; exact hp i hi⟩)
  have e0 := Got.mv _ s₁ s _ _ hh0.symm (Vm.Alike.refl _) rfl E3
  obtain rfl := e0.1
  have c4 : Steps p.tables e below (s₁.setTop (entryFrame m #[.ref a, .ref b] 2)) (T3.setTop (mkF m 9 #[.val (.ref a), .val (.ref b)] [])) := g3
  exact ⟨T3, none, _, _, _, X3, by simp, rfl, by omega, (fun _ => rfl), e0, fun fs hl => c4.trans (X3.returnOut hexec hret (hb hbytes d9) hl)⟩
theorem pays {l : Launch} {R : Room} {p : Program} {e : Env} {below : List Frame} {s : State} {sargs : Array Value} {len W : Nat} (a : Addr) (D : Cell) (fV fC : Field) (b : Addr) (A : Cell) (z : Int32) (htab : tab.before sargs s = true) (hfr : 4 ≤ R.frames) (hlo : W + 65 ≤ R.locals) :
    Back l R p e below s sargs yN len W (fun A₁ a₁ => A₁.cells + 1 ≤ R.cells ∧ A₁.slots + A.slots.size ≤ R.slots ∧ P a D fV fC b A z a₁ A₁.U) (fun A₁ _ v₁ B₁ => E a D fV fC A v₁ A₁.U B₁.U ∧ B₁.locs = A₁.locs ++ [⟨a, fC.slot⟩, ⟨a, fV.slot⟩] ∧ B₁.cells = A₁.cells + 1 ∧ B₁.slots = A₁.slots + A.slots.size) :=
  (law l a D fV fC b A z).pays htab hfr (by omega)
end New1
/-- the byte, read back as charAt reads it, is the char -/
theorem lo8_mask {x : Int32} (h0 : ¬ x < 0) (h1 : ¬ 255 < x) : lo8 x &&& 255 = x := by
  have t : ∀ k : Fin 256, lo8 (Int32.ofNat k.val) &&& 255 = Int32.ofNat k.val := by decide +kernel
  rw [Int32.lt_iff_toInt_lt] at h0 h1
  have e0 : (0 : Int32).toInt = 0 := rfl
  have e1 : (255 : Int32).toInt = 255 := rfl
  obtain ⟨k, hk⟩ : ∃ k : Nat, x.toInt = k := ⟨x.toInt.toNat, by omega⟩
  have hx : x = Int32.ofNat k := Int32.toInt_inj.mp (by rw [hk, Int32.toInt_ofNat_small (by omega)])
  rw [hx]
  exact t ⟨k, by omega⟩
end StrChars
namespace StrChars.Road
open Jvm Sem ClassFile Op Lib Jvm.Stand Jvm.Free Jvm.Free.XT
open Jvm.Lib.Cold (StaticIs)
abbrev ST : String := "java/lang/String"
/-- every table word that New1's law asks, flat -/
abbrev words : List Jvm.Cond := [.code New1.yN New1.yB 2 none, .initialized ST, .methodLink ST 27 New4.yN, .instanceMethod New4.yN,
  .code New4.yN New4.yB 6 none, .fieldLink ST 38 ST "COMPACT_STRINGS" "Z", .laysFinal ST ST "value" "[B", .fieldLink ST 9 ST "value" "[B", .laysFinal ST ST "coder" "B", .fieldLink ST 15 ST "coder" "B",
  .methodLink ST 1 Lib.objectInit, .instanceMethod Lib.objectInit, .code Lib.objectInit ⟨#[0xb1]⟩ 1 none, .methodLink ST 177 Cmp3.yN, .static Cmp3.yN, .methodLink ST 47 CodL.yN, .static CodL.yN,
  .code Cmp3.yN Cmp3.yB 6 (some (.array .byte)), .initialized U16, .arrayClass .byte, .methodLink U16 115 Cmp5.yN, .static Cmp5.yN, .code Cmp5.yN Cmp5.yB 7 (some .int), .code CodL.yN CodL.yB 2 (some .byte)]
theorem tab_of {a : Array Value} {s : State} (h : ∀ w ∈ words, w.before a s = true) : New1.tab.before a s = true := by
  have h5 : Cmp5.tab.before a s = true := unparts (wk h (.code Cmp5.yN Cmp5.yB 7 (some .int))) (wks h (.initialized Cmp5.yN.cls :: Cmp5.site))
  have hc : CodL.tab.before a s = true := unparts (wk h (.code CodL.yN CodL.yB 2 (some .byte))) (wks h (.initialized CodL.yN.cls :: CodL.site))
  have q5 : ∀ w ∈ Cmp5.tab :: words, w.before a s = true := fun w hw => (List.mem_cons.mp hw).elim (fun e => e ▸ h5) (h w)
  have h3 : Cmp3.tab.before a s = true := unparts (wk q5 (.code Cmp3.yN Cmp3.yB 6 (some (.array .byte)))) (wks q5 (.initialized Cmp3.yN.cls :: Cmp3.site))
  have q3 : ∀ w ∈ Cmp3.tab :: CodL.tab :: words, w.before a s = true := fun w hw => (List.mem_cons.mp hw).elim (fun e => e ▸ h3) fun hw => (List.mem_cons.mp hw).elim (fun e => e ▸ hc) (h w)
  have h4 : New4.tab.before a s = true := unparts (wk q3 (.code New4.yN New4.yB 6 none)) (wks q3 (.initialized New4.yN.cls :: New4.site))
  have q4 : ∀ w ∈ New4.tab :: words, w.before a s = true := fun w hw => (List.mem_cons.mp hw).elim (fun e => e ▸ h4) (h w)
  exact unparts (wk q4 (.code New1.yN New1.yB 2 none)) (wks q4 (.initialized New1.yN.cls :: New1.site))
/-- the words ride from the start Z to the walk's own state -/
theorem moved {Z s : State} {a0 args : Array Value} (hZ : Z.Warmed39 s.vm) (hw : ∀ d ∈ words, d.before a0 Z = true) : ∀ d ∈ words, d.before args s = true := fun d hd => by
  have q := hw d hd
  have t : ∀ d ∈ words, d = .arrayClass .byte ∨ (d.onTables && d.keepsFace) = true := by decide +kernel
  rcases t d hd with rfl | t
  · exact RoadKit.mvA hZ q
  · exact RoadKit.mv hZ q t
/-- WHAT COMES BACK, over the tables of the start Z: h the heap at the call, h' behind it -/
def Q (Z : State) (x : Addr) (A : Cell) (h : Heap) (v : Option Value) (h' : Heap) (L : List Loc) : Prop := v = none ∧ (∀ y ∈ L, y.base = x) ∧ RoadKit.Keep h h' [x] ∧ h'.size = h.size + 1 ∧ RoadKit.Exa Z h' x ST ∧ RoadKit.Fld Z h' x ST "value" "[B" (.ref h.size) ∧ RoadKit.Fld Z h' x ST "coder" "B" (.int 0) ∧
  (∃ V : Cell, RoadKit.Arr Z h' h.size V .byte ∧ V.vm = .none ∧ Z.vm.findClass "[B" = some V.cls ∧ V.slots.size = A.slots.size ∧ ∀ j, j < A.slots.size → V.slots[j]? = some (.int (lo8 (cv A j)))) ∧
  ∀ (O n d : String) (w : Value), RoadKit.Fld Z h x O n d w → RoadKit.slotOf Z O n d ≠ RoadKit.slotOf Z ST "value" "[B" → RoadKit.slotOf Z O n d ≠ RoadKit.slotOf Z ST "coder" "B" → RoadKit.Fld Z h' x O n d w
/-- **new String(chars) AT A CALL, IN THE ROAD'S FORM**: for specialBack behind newO: x the fresh String, b the char[] with the cell A -/
theorem back {p : Program} {l : Launch} {e : Env} {R : Room} {s : State} {args : Array Value} {below : List Frame} {len W : Nat} {Z : State} {a0 : Array Value} {h : Heap} (hZ : Z.Warmed39 s.vm) (hw : ∀ d ∈ words, d.before a0 Z = true) {kI : Nat} (wi : (Jvm.Cond.instantiable ST kI).before a0 Z = true)
    {x b : Addr} {A : Cell} {z : Int32} {v0 c0 : Value} (E : RoadKit.Exa Z h x ST) (V : RoadKit.Fld Z h x ST "value" "[B" v0) (C : RoadKit.Fld Z h x ST "coder" "B" c0) (K : RoadKit.Arr Z h b A .char) (hty : Typed .char A) (S : RoadKit.Sta Z h ST "COMPACT_STRINGS" "Z" (.int z)) (hz : ¬ z = 0)
    (l0 : 0 < A.slots.size) (l2 : A.slots.size ≤ 536870912) (hp : ∀ i, i < A.slots.size → ¬ 255 < cv A i) (hfr : 4 ≤ R.frames) (hlo : W + 65 ≤ R.locals) :
    Back l R p e below s args New1.yN len W (fun P a => a = #[.ref x, .ref b] ∧ P.U.heap = h ∧ P.cells + 1 ≤ R.cells ∧ P.slots + A.slots.size ≤ R.slots)
      (fun P _ v B => ∃ L, Q Z x A h v B.U.heap L ∧ B.locs = P.locs ++ L ∧ B.cells = P.cells + 1 ∧ B.slots = P.slots + A.slots.size) := by
  intro m meth c P g ig mk a X hg hsize hdg hW hn hp'
  obtain ⟨rfl, rfl, r1, r2⟩ := hp'
  have al : Z.vm.Alike P.U.vm := hZ.alike.trans X.warmed.alike
  obtain ⟨D, cfV, kV, iV, fV, hD, gV, stV, knV, obV, asV, slV⟩ := id V
  obtain ⟨D', cfC, kC, iC, fC, hD', gC, stC, -, -, asC, slC⟩ := id C
  cases hD.symm.trans hD'
  obtain ⟨D2, kD, e1, e2, e3, e4, e5⟩ := id E
  cases hD.symm.trans e1
  obtain ⟨c2, k2, i1, i2, i3, -⟩ := Cond.instantiable_spec wi
  cases e2.symm.trans i1
  cases e3.symm.trans i2
  obtain ⟨kU, u1, u2⟩ := al.2.2 _ _ e3
  have hB : Blank ST x D P.U := ⟨hD, ⟨knV, fun q hq => by rw [hq] at obV; cases obV⟩, by rw [al.findClass]; exact e2, kU, u1, by rw [u2]; exact i3, by rw [u2]; exact e5 i3⟩
  have F1 : Found ST "value" "[B" fV P.U := ⟨SBG.found_only al ⟨cfV, kV, iV, gV⟩, stV⟩
  have F2 : Found ST "coder" "B" fC P.U := ⟨SBG.found_only al ⟨cfC, kC, iC, gC⟩, stC⟩
  have hA : Ch b A P.U := ⟨⟨K.1, State.isArrayOf_alike al K.2.1, K.2.2, by omega⟩, hty⟩
  have hS : StaticIs P.U ST "COMPACT_STRINGS" "Z" (.int z) := by
    obtain ⟨cfS, iS, kS, fS, st, cS, t1, t2, t3, t4, t5, t6, t7⟩ := S
    exact StaticIs.there (s := { Z with heap := P.U.heap }) ⟨cfS, iS, kS, fS, st, cS, t1, t2, t3, t4, t5, (fun q => by rw [q] at t6; cases t6), t7⟩ al rfl
  obtain ⟨v, B, X', ⟨⟨hv, E', V', q1, q2, q3, q4, q5, q6, q7, q8, q9, q10, q11⟩, hl, hc, hs⟩, st⟩ := New1.pays x D fV fC b A z (tab_of (moved hZ hw)) hfr hlo m meth c P g ig mk _ X hg hsize hdg hW hn ⟨r1, r2, rfl, hB, F1, F2, hA, hS, hz, l0, l2, hp⟩
  have al' : Z.vm.Alike B.U.vm := hZ.alike.trans X'.warmed.alike
  have hsz : E'.slots.size = D.slots.size := by
    obtain ⟨-, -, -, kB, w1, w2, w3⟩ := q1
    obtain ⟨kB', y1, y2⟩ := al'.2.2 _ _ e3
    rw [q2.2.1] at w1
    cases w1.symm.trans y1
    rw [w3, e5 i3, y2]
  refine ⟨v, B, X', ⟨_, ⟨hv, ?_, ⟨by omega, fun y cy hy hn' => q10 y cy (by simpa using hn') hy, fun y cy hy => ?_⟩, q11, ⟨E', _, q1.1, by rw [q2.2.1]; exact e2, by rw [q2.2.1]; exact e3, by rw [q2.1]; exact obV, fun _ => by rw [hsz]; exact e5 i3⟩,
    ⟨E', cfV, kV, iV, fV, q1.1, gV, stV, by rw [q2.1]; exact knV, by rw [q2.1]; exact obV, by rw [q2.2.1]; exact asV, q3⟩, ⟨E', cfC, kC, iC, fC, q1.1, gC, stC, by rw [q2.1]; exact knV, by rw [q2.1]; exact obV, by rw [q2.2.1]; exact asC, q4⟩,
    ⟨V', ⟨q5.1, State.isArrayOf_alike al'.symm q5.2.1, q5.2.2.1⟩, q6, by rw [← al'.findClass]; exact q7, q8, fun j hj => by have := q9 j hj; rwa [Nat.zero_add] at this⟩, fun O n d w F n1 n2 => ?_⟩, hl, hc, hs⟩, st⟩
  · intro y hy
    simp only [List.mem_cons, List.not_mem_nil, or_false] at hy
    rcases hy with rfl | rfl <;> rfl
  · by_cases q : y = x
    · subst q
      cases hD.symm.trans hy
      exact ⟨E', q1.1, q2.2.1, q2.1, hsz⟩
    · exact ⟨cy, q10 y cy q hy, rfl, rfl, rfl⟩
  · obtain ⟨D3, cf, k, i, f, g1, g2, g3, g4, g5, g6, g7⟩ := F
    cases hD.symm.trans g1
    simp only [RoadKit.slotOf, g2, gV, gC, Option.map_some, Option.getD_some] at n1 n2
    exact ⟨E', cf, k, i, f, q1.1, g2, g3, by rw [q2.1]; exact g4, by rw [q2.1]; exact g5, by rw [q2.2.1]; exact g6, by rw [q2.2.2 f.slot (by simp [n1, n2])]; exact g7⟩
end StrChars.Road
namespace StrChars.Road
open Jvm Sem ClassFile Op Lib Jvm.Stand Jvm.Free Jvm.Free.XT
/-- WHAT COMES BACK, the byte[] as a list of values -/
def QA (Z : State) (x : Addr) (zn : Int32) (cs : List Int32) (h : Heap) (v : Option Value) (h' : Heap) (L : List Loc) : Prop := v = none ∧ (∀ y ∈ L, y.base = x) ∧ RoadKit.Keep h h' [x] ∧ h'.size = h.size + 1 ∧ RoadKit.Exa Z h' x ST ∧ RoadKit.Fld Z h' x ST "value" "[B" (.ref h.size) ∧ RoadKit.Fld Z h' x ST "coder" "B" (.int 0) ∧
  (∃ kb, Z.vm.findClass "[B" = some kb ∧ RoadKit.Arv Z h' h.size kb .byte zn (cs.map fun c => .int (lo8 c)) (.int 0)) ∧
  ∀ (O n d : String) (w : Value), RoadKit.Fld Z h x O n d w → RoadKit.slotOf Z O n d ≠ RoadKit.slotOf Z ST "value" "[B" → RoadKit.slotOf Z O n d ≠ RoadKit.slotOf Z ST "coder" "B" → RoadKit.Fld Z h' x O n d w
/-- **new String(chars) AT A CALL, THE ARRAYS AS LISTS**: the char[] at b holds cs, not empty, no char above 255 -/
theorem backArv {p : Program} {l : Launch} {e : Env} {R : Room} {s : State} {args : Array Value} {below : List Frame} {len W : Nat} {Z : State} {a0 : Array Value} {h : Heap} (hZ : Z.Warmed39 s.vm) (hw : ∀ d ∈ words, d.before a0 Z = true) {kI : Nat} (wi : (Jvm.Cond.instantiable ST kI).before a0 Z = true)
    {x b : Addr} {k : ClassId} {zn z : Int32} {cs : List Int32} {dv v0 c0 : Value} (E : RoadKit.Exa Z h x ST) (V : RoadKit.Fld Z h x ST "value" "[B" v0) (C : RoadKit.Fld Z h x ST "coder" "B" c0) (K : RoadKit.Arv Z h b k .char zn (cs.map Value.int) dv) (S : RoadKit.Sta Z h ST "COMPACT_STRINGS" "Z" (.int z)) (hz : ¬ z = 0)
    (hlen : zn.toNatClampNeg = cs.length) (h0 : 0 < cs.length) (hbig : cs.length ≤ 536870912) (hall : ∀ c ∈ cs, ¬ 255 < c) (hfr : 4 ≤ R.frames) (hlo : W + 65 ≤ R.locals) :
    Back l R p e below s args New1.yN len W (fun P a => a = #[.ref x, .ref b] ∧ P.U.heap = h ∧ P.cells + 1 ≤ R.cells ∧ P.slots + cs.length ≤ R.slots)
      (fun P _ v B => ∃ L, QA Z x zn cs h v B.U.heap L ∧ B.locs = P.locs ++ L ∧ B.cells = P.cells + 1 ∧ B.slots = P.slots + cs.length) := by
  obtain ⟨A, K1, K2, K3, K4, K5, K6⟩ := K
  have e : A.slots.size = cs.length := K3.trans hlen
  have hat : ∀ (i : Nat) (hi : i < cs.length), A.slots[i]? = some (.int cs[i]) := fun i hi => by rw [K5 i (by omega)]; simp [List.getD_eq_getElem?_getD, hi]
  have hcv : ∀ (i : Nat) (hi : i < cs.length), cv A i = cs[i] := fun i hi => by unfold cv; rw [hat i hi]
  have hty : Typed .char A := fun i v hv => by
    have hi : i < A.slots.size := (Array.getElem?_eq_some_iff.mp hv).1
    have q := K5 i hi
    rw [hv] at q
    rw [Option.some.inj q]
    exact K6 i hi
  refine Back.mono (back hZ hw wi E V C K1 hty S hz (by omega) (by omega) (fun i hi => by rw [hcv i (by omega)]; exact hall _ (List.getElem_mem _)) hfr hlo) (fun P a hp => ⟨hp.1, hp.2.1, hp.2.2.1, by rw [e]; exact hp.2.2.2⟩) (fun P a v B hp hq => ?_)
  obtain ⟨L, ⟨q1, q2, q3, q4, q5, q6, q7, ⟨V', v1, v2, v3, v4, v5⟩, q9⟩, hl, hc, hs⟩ := hq
  refine ⟨L, ⟨q1, q2, q3, q4, q5, q6, q7, ⟨V'.cls, v3, V', v1, rfl, by rw [v4, e, hlen], K4, fun i hi => ?_, fun i hi => ?_⟩, q9⟩, hl, hc, by rw [hs, e]⟩
  · have hi' : i < cs.length := by omega
    rw [v5 i (by omega), hcv i hi']; simp [List.getD_eq_getElem?_getD, hi']
  · have hi' : i < cs.length := by omega
    simp only [List.getD_eq_getElem?_getD, List.getElem?_map, List.getElem?_eq_getElem hi', Option.map_some, Option.getD_some]
    exact fits_lo8 _
end StrChars.Road
namespace StrChars.Road
open Jvm Sem ClassFile Op Lib Jvm.Stand Jvm.Free Jvm.Free.XT
/-- WHAT COMES BACK, in the writer's own shape -/
def QV (Z : State) (x : Addr) (N : Int32) (bs : List Int32) (h : Heap) (n0 : Nat) (v : Option Value) (h' : Heap) (L : List Loc) : Prop := v = none ∧ RoadKit.Fr n0 L ∧ RoadKit.Keep h h' [x] ∧ RoadKit.Exa Z h' x ST ∧ RoadKit.Fld Z h' x ST "coder" "B" (.int 0) ∧
  ∃ (t : Addr) (kb : ClassId), n0 ≤ t ∧ h.size ≤ t ∧ ¬ t = x ∧ RoadKit.Fld Z h' x ST "value" "[B" (.ref t) ∧ RoadKit.Arv Z h' t kb .byte N (bs.map Value.int) (.int 0)
/-- **new String(chars) AT A CALL, FOR THE WRITER**: a char[] of n known ints, each 0 to 255 -/
theorem backV {p : Program} {l : Launch} {e : Env} {R : Room} {s : State} {args : Array Value} {below : List Frame} {len W : Nat} {Z : State} {a0 : Array Value} {h : Heap} (hZ : Z.Warmed39 s.vm) (hw : ∀ d ∈ words, d.before a0 Z = true) {kI : Nat} (wi : (Jvm.Cond.instantiable ST kI).before a0 Z = true)
    {x b : Addr} {kC : ClassId} {cs bs : List Int32} {d v0 c0 : Value} {z N : Int32} {n n0 : Nat} (hx0 : n0 ≤ x) (hh0 : n0 ≤ h.size) (E : RoadKit.Exa Z h x ST) (V : RoadKit.Fld Z h x ST "value" "[B" v0) (C : RoadKit.Fld Z h x ST "coder" "B" c0) (K : RoadKit.Arv Z h b kC .char N (cs.map Value.int) d) (S : RoadKit.Sta Z h ST "COMPACT_STRINGS" "Z" (.int z)) (hz : ¬ z = 0)
    (hn : cs.length = n) (hN : N = Int32.ofNat n) (l0 : 0 < n) (l2 : n ≤ 4000) (hp : ∀ c ∈ cs, ¬ c < 0 ∧ ¬ (255 : Int32) < c) (hb : bs = cs.map (fun c => c.toInt8.toInt32)) (hfr : 4 ≤ R.frames) (hlo : W + 65 ≤ R.locals) :
    Back l R p e below s args (⟨"java/lang/String", "<init>", "([C)V"⟩ : MethodName) len W (fun P a => a = #[.ref x, .ref b] ∧ P.U.heap = h ∧ P.cells + 1 ≤ R.cells ∧ P.slots + n ≤ R.slots)
      (fun P _ v B => ∃ L, QV Z x N bs h n0 v B.U.heap L ∧ B.locs = P.locs ++ L ∧ B.cells = P.cells + 1 ∧ B.slots = P.slots + n) := by
  subst hn hN hb
  refine Back.mono (backArv hZ hw wi E V C K S hz (n32 (by omega)) l0 (by omega) (fun c hc => (hp c hc).2) hfr hlo) (fun P a hp => hp) (fun P a v B hp hq => ?_)
  obtain ⟨L, ⟨q1, q2, q3, q4, q5, q6, q7, ⟨kb, v1, v2⟩, q9⟩, hl, hc, hs⟩ := hq
  exact ⟨L, ⟨q1, fun y hy => by rw [q2 y hy]; exact hx0, q3, q5, q7, h.size, kb, hh0, Nat.le_refl _, Nat.ne_of_gt E.lt, q6, by rw [List.map_map]; exact v2⟩, hl, hc, hs⟩
end StrChars.Road
namespace StrChars
open Jvm Sem ClassFile Op Lib Jvm.Stand Jvm.Free.XT Jvm.Free.ALB Jvm.Free.JM Jvm.Free
open Jvm.Lib.Cold (StaticIs)
def hi8 (x : Int32) : Int32 := lo8 (x >>> ((8 : Int32) &&& 31))
/-- what StringUTF16.getChar makes of two bytes -/
def pairCh (u v : Int32) : Int32 := (((u &&& 255) <<< ((0 : Int32) &&& 31)) ||| ((v &&& 255) <<< ((8 : Int32) &&& 31))).toUInt32.toUInt16.toUInt32.toInt32
theorem shr0 (c : Int32) : c >>> ((0 : Int32) &&& 31) = c := by
  have e : ((0 : Int32) &&& 31) = 0 := by decide
  rw [e]
  apply Int32.toBitVec_inj.mp
  rw [Int32.toBitVec_shiftRight]
  have e1 : ((0 : Int32).toBitVec.smod 32) = 0#32 := by decide
  rw [e1, BitVec.sshiftRight_eq']
  exact BitVec.sshiftRight_zero
theorem lo8_and (x : Int32) : (lo8 x &&& 255).toBitVec.toNat = x.toBitVec.toNat % 256 := by
  have h : (lo8 x).toBitVec = (x.toBitVec.signExtend 8).signExtend 32 := by rw [lo8, Int8.toBitVec_toInt32, Int32.toBitVec_toInt8]
  rw [Int32.toBitVec_and, BitVec.toNat_and, h]
  have e : ((x.toBitVec.signExtend 8).signExtend 32).toNat % 256 = x.toBitVec.toNat % 256 := by
    rw [BitVec.toNat_signExtend]
    have hlt := x.toBitVec.isLt
    simp only [BitVec.toNat_setWidth, BitVec.toNat_signExtend]
    split <;> split <;> omega
  rw [← e]
  exact Nat.and_two_pow_sub_one_eq_mod _ 8
theorem pair_says {c : Int32} (h0 : ¬ c < 0) (h1 : ¬ 65535 < c) : pairCh (lo8 c) (hi8 c) = c := by
  rw [Int32.lt_iff_toInt_lt] at h0 h1
  have e0 : (0 : Int32).toInt = 0 := rfl
  have e1 : (65535 : Int32).toInt = 65535 := rfl
  have hc : c.toInt = c.toBitVec.toNat := by
    have := c.toBitVec.isLt
    have e : c.toInt = c.toBitVec.toInt := rfl
    rw [e] at h0 h1
    rw [e]
    rw [BitVec.toInt_eq_toNat_cond] at h0 h1 ⊢
    split at h0 <;> split <;> omega
  have hn : c.toBitVec.toNat < 65536 := by omega
  have a1 := lo8_and c
  have a2 : (hi8 c &&& 255).toBitVec.toNat = c.toBitVec.toNat / 256 := by
    rw [hi8, lo8_and]
    have e : ((8 : Int32) &&& 31) = 8 := by decide
    rw [e, Int32.toBitVec_shiftRight]
    have e2 : ((8 : Int32).toBitVec.smod 32) = 8#32 := by decide
    rw [e2, BitVec.sshiftRight_eq', BitVec.toNat_sshiftRight_of_msb_false (by rw [BitVec.msb_eq_false_iff_two_mul_lt]; omega)]
    show c.toBitVec.toNat >>> 8 % 256 = _
    rw [Nat.shiftRight_eq_div_pow]
    omega
  unfold pairCh
  apply Int32.toBitVec_inj.mp
  apply BitVec.eq_of_toNat_eq
  have f0 : ((0 : Int32) &&& 31) = 0 := by decide
  have f8 : ((8 : Int32) &&& 31) = 8 := by decide
  rw [f0, f8]
  have g : (((lo8 c &&& 255) <<< (0 : Int32)) ||| ((hi8 c &&& 255) <<< (8 : Int32))).toBitVec.toNat = c.toBitVec.toNat := by
    rw [Int32.toBitVec_or, Int32.toBitVec_shiftLeft, Int32.toBitVec_shiftLeft]
    have s0 : ((0 : Int32).toBitVec.smod 32) = 0#32 := by decide
    have s8 : ((8 : Int32).toBitVec.smod 32) = 8#32 := by decide
    rw [s0, s8, BitVec.toNat_or]
    simp only [BitVec.shiftLeft_eq', BitVec.toNat_shiftLeft, a1, a2]
    show (c.toBitVec.toNat % 256) <<< 0 % 2 ^ 32 ||| (c.toBitVec.toNat / 256) <<< 8 % 2 ^ 32 = _
    rw [Nat.shiftLeft_zero, Nat.mod_eq_of_lt (show c.toBitVec.toNat % 256 < 2 ^ 32 by omega), Nat.mod_eq_of_lt (show (c.toBitVec.toNat / 256) <<< 8 < 2 ^ 32 by rw [Nat.shiftLeft_eq]; omega), Nat.or_comm, ← Nat.shiftLeft_add_eq_or_of_lt (by omega), Nat.shiftLeft_eq]
    omega
  show BitVec.toNat (((((lo8 c &&& 255) <<< (0 : Int32)) ||| ((hi8 c &&& 255) <<< (8 : Int32))).toBitVec.setWidth 16).setWidth 32) = _
  rw [BitVec.toNat_setWidth, BitVec.toNat_setWidth, g]
  omega
end StrChars
namespace StrChars
open Jvm Sem ClassFile Op Lib Jvm.Stand Jvm.Free.XT Jvm.Free.ALB Jvm.Free.JM Jvm.Free
open Jvm.Lib.Cold (StaticIs)
theorem shr1 {n : Nat} (h : 2 * n < 2 ^ 31) : Int32.ofNat (2 * n) >>> ((1 : Int32) &&& 31) = Int32.ofNat n := by
  have e : ((1 : Int32) &&& 31) = 1 := by decide
  rw [e]
  apply Int32.toBitVec_inj.mp
  rw [Int32.toBitVec_shiftRight]
  have e1 : ((1 : Int32).toBitVec.smod 32) = 1#32 := by decide
  have hm : (BitVec.ofNat 32 (2 * n)).toNat = 2 * n := by rw [BitVec.toNat_ofNat, Nat.mod_eq_of_lt (by omega)]
  rw [e1, BitVec.sshiftRight_eq']
  apply BitVec.eq_of_toNat_eq
  show ((BitVec.ofNat 32 (2 * n)).sshiftRight 1).toNat = (BitVec.ofNat 32 n).toNat
  rw [BitVec.toNat_sshiftRight_of_msb_false (by rw [BitVec.msb_eq_false_iff_two_mul_lt, hm]; omega), hm, BitVec.toNat_ofNat, Nat.shiftRight_eq_div_pow]
  omega
/-- charAt's cast of a byte read back -/
def chr8 (u : Int32) : Int32 := (u &&& 255).toUInt32.toUInt16.toUInt32.toInt32
theorem chr8_lo8 {c : Int32} (h0 : ¬ c < 0) (h1 : ¬ 255 < c) : chr8 (lo8 c) = c := by
  have t : ∀ k : Fin 256, (Int32.ofNat k.val).toUInt32.toUInt16.toUInt32.toInt32 = Int32.ofNat k.val := by decide +kernel
  unfold chr8
  rw [lo8_mask h0 h1]
  rw [Int32.lt_iff_toInt_lt] at h0 h1
  have e0 : (0 : Int32).toInt = 0 := rfl
  have e1 : (255 : Int32).toInt = 255 := rfl
  obtain ⟨k, hk⟩ : ∃ k : Nat, c.toInt = k := ⟨c.toInt.toNat, by omega⟩
  have hx : c = Int32.ofNat k := Int32.toInt_inj.mp (by rw [hk, Int32.toInt_ofNat_small (by omega)])
  rw [hx]
  exact t ⟨k, by omega⟩
theorem narrow_ch {c : Int32} (h0 : ¬ c < 0) (h1 : ¬ 65535 < c) : narrow .char (.int c) = .int c := by
  have q : narrow .char (.int (pairCh (lo8 c) (hi8 c))) = .int (pairCh (lo8 c) (hi8 c)) := narrow_c _
  rwa [pair_says h0 h1] at q
/-- the array's cell V codes the n chars f 0 .. f (n - 1) by the coder cd, as the JDK does: coder 1 just where some char is above 255 -/
def Cod (cd : Int32) (n : Nat) (f : Nat → Int32) (V : Cell) : Prop := (cd = 0 ∧ V.slots.size = n ∧ ∀ j, j < n → V.slots[j]? = some (.int (lo8 (f j))) ∧ ¬ 255 < f j) ∨ (cd = 1 ∧ V.slots.size = 2 * n ∧ (∀ j, j < n → V.slots[2 * j]? = some (.int (lo8 (f j))) ∧ V.slots[2 * j + 1]? = some (.int (hi8 (f j)))) ∧ ∃ j, j < n ∧ 255 < f j)
theorem Cod.cd {cd : Int32} {n : Nat} {f : Nat → Int32} {V : Cell} (h : Cod cd n f V) : cd = 0 ∨ cd = 1 := h.imp (fun q => q.1) fun q => q.1
theorem Cod.len {cd : Int32} {n : Nat} {f : Nat → Int32} {V : Cell} (h : Cod cd n f V) (hs : V.slots.size < 2 ^ 31) : Int32.ofNat V.slots.size >>> (cd &&& 31) = Int32.ofNat n := by
  rcases h with ⟨rfl, h, -⟩ | ⟨rfl, h, -⟩
  · rw [shr0, h]
  · rw [h, shr1 (by omega)]
/-- **x is a String of the n chars f 0 .. f (n - 1)**, Latin-1 or UTF-16; its array at t has the cell V -/
def Txt (x t : Addr) (V : Cell) (cd : Int32) (n : Nat) (f : Nat → Int32) (U : State) : Prop := Exact "java/lang/String" x U ∧ Has x "java/lang/String" "value" "[B" (.ref t) U ∧ Has x "java/lang/String" "coder" "B" (.int cd) U ∧ XT.Arr .byte t V U ∧ Cod cd n f V ∧ ∀ j, j < n → ¬ f j < 0 ∧ ¬ 65535 < f j
theorem Txt.mv {x t : Addr} {V : Cell} {cd : Int32} {n : Nat} {f : Nat → Int32} {U U' : State} (h : Txt x t V cd n f U) (hal : U.vm.Alike U'.vm) (hh : U'.heap = U.heap) : Txt x t V cd n f U' := ⟨h.1.mv hal hh, h.2.1.mv hal hh, h.2.2.1.mv hal hh, h.2.2.2.1.mv hal hh, h.2.2.2.2⟩
namespace Cdr
def yN : MethodName := ⟨"java/lang/String", "coder", "()B"⟩
abbrev yB : ByteArray := jdk_42_method_152_code
theorem d0 : decode yB 0 = .ok (.getstatic 38, 3) := by decide +kernel
theorem d3 : decode yB 3 = .ok (.ifCond (.eq) 10, 3) := by decide +kernel
theorem d6 : decode yB 6 = .ok (.aload_n 0, 1) := by decide +kernel
theorem d7 : decode yB 7 = .ok (.getfield 15, 3) := by decide +kernel
theorem d10 : decode yB 10 = .ok (.goto 4, 3) := by decide +kernel
theorem d14 : decode yB 14 = .ok (.ireturn, 1) := by decide +kernel
def site : List Cond := [.fieldLink "java/lang/String" 38 "java/lang/String" "COMPACT_STRINGS" "Z", .fieldLink "java/lang/String" 15 "java/lang/String" "coder" "B"]
def tab : Cond := tabOf yN yB 1 (some .byte) site
def P (x : Addr) (cd z : Int32) (args : Array Value) (s : State) : Prop := args = #[.ref x] ∧ Has x "java/lang/String" "coder" "B" (.int cd) s ∧ (cd = 0 ∨ cd = 1) ∧ StaticIs s "java/lang/String" "COMPACT_STRINGS" "Z" (.int z) ∧ ¬ z = 0
def E (cd : Int32) (r : Option Value) (s u : State) : Prop := XT.PureE (some (.int cd)) r s u
theorem law (l : Launch) (x : Addr) (cd z : Int32) : Law l yN 1 0 0 0 yB 1 (some .byte) site (P x cd z) (E cd) [] 0 0 := by
  refine Law.of_walk (plainFor_of_name (by decide +kernel)) (by decide +kernel) (by decide +kernel) (by decide) (fun _ _ h => by rw [h.1]; rfl) (fun _ U U' hal hh h => ⟨h.1, h.2.1.mv hal hh, h.2.2.1, h.2.2.2.1.there hal hh, h.2.2.2.2⟩) (fun r U U' V V' h1 hal h2 h => XT.PureE.mv r U U' V V' h1 hal h2 h) ?_
  intro p e s m args below meth c s₁ X0 hexec hbytes hml hret hlk hnm hown hh0 W hP
  obtain ⟨rfl, hx, hc, s1, hz⟩ := hP
  have c1 : Steps p.tables e below (s₁.setTop (entryFrame m #[.ref x] 1)) (s₁.setTop (mkF m 0 #[.val (.ref x)] [])) := entry rfl
  obtain ⟨T2, X2, q2, st2⟩ := X0.sget hexec hown (wk W (.fieldLink "java/lang/String" 38 "java/lang/String" "COMPACT_STRINGS" "Z")) s1 (fun _ _ h => by rw [hh0]; exact h) (g := (mkF m 0 #[.val (.ref x)] [])) rfl (hb hbytes d0)
  have hh2 := q2.trans hh0
  have c3 : Steps p.tables e below (s₁.setTop (entryFrame m #[.ref x] 1)) (T2.setTop (mkF m 7 #[.val (.ref x)] [.ref x])) := (c1.trans (st2 _ (Steps.refl _))).trans (by
    refine XS.ifNo X2.here hexec rfl (hb hbytes d3) rfl (i0_eq_f hz) ?_
    refine XS.aloadN X2.here hexec rfl (hb hbytes d6) rfl rfl ?_
    exact Steps.refl _)
  obtain ⟨T4, X4, q4, st4⟩ := X2.hget hexec hown (wk W (.fieldLink "java/lang/String" 15 "java/lang/String" "coder" "B")) (hx.mv X2.warmed.alike hh2) (g := (mkF m 7 #[.val (.ref x)] [.ref x])) rfl (rest := []) rfl (hb hbytes d7)
  have c5 : Steps p.tables e below (s₁.setTop (entryFrame m #[.ref x] 1)) (T4.setTop (mkF m 14 #[.val (.ref x)] [.int cd])) := (c3.trans (st4 _ (Steps.refl _))).trans (by
    refine XS.goto X4.here hexec rfl (pc0 := 10) rfl (hb hbytes d10) (by decide) rfl ?_
    exact Steps.refl _)
  exact ⟨T4, some (.int cd), _, _, _, X4, rfl, rfl, rfl, (fun h => by cases h), ⟨rfl, q4.trans hh2⟩, fun fs hl => c5.trans (X4.ireturnOut hexec hret (by rcases hc with rfl | rfl <;> rfl) (Or.inr (Or.inr (Or.inl rfl))) (hb hbytes d14) hl)⟩
end Cdr
namespace Len
def yN : MethodName := ⟨"java/lang/String", "length", "()I"⟩
abbrev yB : ByteArray := jdk_42_method_54_code
theorem d0 : decode yB 0 = .ok (.aload_n 0, 1) := by decide +kernel
theorem d1 : decode yB 1 = .ok (.getfield 9, 3) := by decide +kernel
theorem d4 : decode yB 4 = .ok (.arraylength, 1) := by decide +kernel
theorem d5 : decode yB 5 = .ok (.aload_n 0, 1) := by decide +kernel
theorem d6 : decode yB 6 = .ok (.invokevirtual 335, 3) := by decide +kernel
theorem d9 : decode yB 9 = .ok (.ishr, 1) := by decide +kernel
theorem d10 : decode yB 10 = .ok (.ireturn, 1) := by decide +kernel
def site : List Cond := [.fieldLink "java/lang/String" 9 "java/lang/String" "value" "[B", Cdr.tab] ++ virtW "java/lang/String" 335 "java/lang/String" Cdr.yN Cdr.yN
def tab : Cond := tabOf yN yB 1 (some .int) site
def P (x t : Addr) (V : Cell) (cd : Int32) (n : Nat) (f : Nat → Int32) (z : Int32) (args : Array Value) (s : State) : Prop := args = #[.ref x] ∧ Txt x t V cd n f s ∧ StaticIs s "java/lang/String" "COMPACT_STRINGS" "Z" (.int z) ∧ ¬ z = 0
def E (n : Nat) (r : Option Value) (s u : State) : Prop := XT.PureE (some (.int (Int32.ofNat n))) r s u
/-- length() of a String of n chars, in either coding -/
theorem law (l : Launch) (x t : Addr) (V : Cell) (cd : Int32) (n : Nat) (f : Nat → Int32) (z : Int32) : Law l yN 1 0 1 13 yB 1 (some .int) site (P x t V cd n f z) (E n) [] 0 0 := by
  refine Law.of_walk (plainFor_of_name (by decide +kernel)) (by decide +kernel) (by decide +kernel) (by decide) (fun _ _ h => by rw [h.1]; rfl) (fun _ U U' hal hh h => ⟨h.1, h.2.1.mv hal hh, h.2.2.1.there hal hh, h.2.2.2⟩) (fun r U U' V V' h1 hal h2 h => XT.PureE.mv r U U' V V' h1 hal h2 h) ?_
  intro p e s m args below meth c s₁ X0 hexec hbytes hml hret hlk hnm hown hh0 W hP
  obtain ⟨rfl, hx, s1, hz⟩ := hP
  have v31 := hx.2.2.2.1.2.2.2
  have c1 : Steps p.tables e below (s₁.setTop (entryFrame m #[.ref x] 1)) (s₁.setTop (mkF m 1 #[.val (.ref x)] [.ref x])) := Steps.trans (entry rfl) (by
    show Steps p.tables e below (s₁.setTop (mkF m 0 #[.val (.ref x)] [])) _
    refine XS.aloadN X0.here hexec rfl (hb hbytes d0) rfl rfl ?_
    exact Steps.refl _)
  obtain ⟨T2, X2, q2, st2⟩ := X0.hget hexec hown (wk W (.fieldLink "java/lang/String" 9 "java/lang/String" "value" "[B")) (hx.mv X0.warmed.alike hh0).2.1 (g := (mkF m 1 #[.val (.ref x)] [.ref x])) rfl (rest := []) rfl (hb hbytes d1)
  have hh2 := q2.trans hh0
  have hx2 := hx.mv X2.warmed.alike hh2
  have c3 : Steps p.tables e below (s₁.setTop (entryFrame m #[.ref x] 1)) (T2.setTop (mkF m 6 #[.val (.ref x)] [.ref x, .int (Int32.ofNat V.slots.size)])) := (c1.trans (st2 _ (Steps.refl _))).trans (by
    refine X2.alen hexec hx2.2.2.2.1 rfl rfl (hb hbytes d4) ?_
    refine XS.aloadN X2.here hexec rfl (hb hbytes d5) rfl rfl ?_
    exact Steps.refl _)
  obtain ⟨v4, T4, X4, E4, g4⟩ := X2.callV hexec (Cdr.law l x cd z) hown (wks W (virtW "java/lang/String" 335 "java/lang/String" Cdr.yN Cdr.yN)) rfl (by decide) (wk W Cdr.tab) (W := 1) (Nat.le_of_ble_eq_true rfl) (Nat.le_of_ble_eq_true rfl) (Nat.le_refl _) (Nat.le_refl _) (hx2.1.fc X2.warmed.alike) hx2.1.is (g := (mkF m 6 #[.val (.ref x)] [.ref x, .int (Int32.ofNat V.slots.size)])) rfl (by rw [hml]; rfl) c3 (argsL := []) (rest := [.int (Int32.ofNat V.slots.size)]) rfl rfl (by show 2 * 0 + (1 + 0) ≤ _; decide) (hb hbytes d6) (⟨rfl, hx2.2.2.1, hx.2.2.2.2.1.cd, s1.there X2.warmed.alike hh2, hz⟩)
  obtain ⟨rfl, q4⟩ := E4
  have c5 : Steps p.tables e below (s₁.setTop (entryFrame m #[.ref x] 1)) (T4.setTop (mkF m 10 #[.val (.ref x)] [.int (Int32.ofNat V.slots.size >>> (cd &&& 31))])) := Steps.trans g4 (by
    refine ishr X4.here hexec rfl (hb hbytes d9) rfl ?_
    exact Steps.refl _)
  rw [hx.2.2.2.2.1.len v31] at c5
  exact ⟨T4, some (.int (Int32.ofNat n)), _, _, _, X4, rfl, rfl, rfl, (fun h => by cases h), ⟨rfl, q4.trans hh2⟩, fun fs hl => c5.trans (X4.ireturnOut hexec hret rfl (Or.inl rfl) (hb hbytes d10) hl)⟩
theorem pays {l : Launch} {R : Room} {p : Program} {e : Env} {below : List Frame} {s : State} {sargs : Array Value} {len W : Nat} (x t : Addr) (V : Cell) (cd : Int32) (n : Nat) (f : Nat → Int32) (z : Int32) (htab : tab.before sargs s = true) (hfr : 2 ≤ R.frames) (hlo : W + 25 ≤ R.locals) :
    Back l R p e below s sargs yN len W (fun A₁ a₁ => A₁.cells + 0 ≤ R.cells ∧ A₁.slots + 0 ≤ R.slots ∧ P x t V cd n f z a₁ A₁.U) (fun A₁ _ v₁ B₁ => E n v₁ A₁.U B₁.U ∧ B₁.locs = A₁.locs ++ [] ∧ B₁.cells = A₁.cells + 0 ∧ B₁.slots = A₁.slots + 0) :=
  (law l x t V cd n f z).pays htab hfr (by omega)
end Len
namespace IsL
def yN : MethodName := ⟨"java/lang/String", "isLatin1", "()Z"⟩
abbrev yB : ByteArray := jdk_42_method_154_code
theorem d0 : decode yB 0 = .ok (.getstatic 38, 3) := by decide +kernel
theorem d3 : decode yB 3 = .ok (.ifCond (.eq) 14, 3) := by decide +kernel
theorem d6 : decode yB 6 = .ok (.aload_n 0, 1) := by decide +kernel
theorem d7 : decode yB 7 = .ok (.getfield 15, 3) := by decide +kernel
theorem d10 : decode yB 10 = .ok (.ifCond (.ne) 7, 3) := by decide +kernel
theorem d13 : decode yB 13 = .ok (.iconst 1, 1) := by decide +kernel
theorem d14 : decode yB 14 = .ok (.goto 4, 3) := by decide +kernel
theorem d17 : decode yB 17 = .ok (.iconst 0, 1) := by decide +kernel
theorem d18 : decode yB 18 = .ok (.ireturn, 1) := by decide +kernel
def site : List Cond := [.fieldLink "java/lang/String" 38 "java/lang/String" "COMPACT_STRINGS" "Z", .fieldLink "java/lang/String" 15 "java/lang/String" "coder" "B"]
def tab : Cond := tabOf yN yB 1 (some .boolean) site
def P (x : Addr) (cd z : Int32) (args : Array Value) (s : State) : Prop := args = #[.ref x] ∧ Has x "java/lang/String" "coder" "B" (.int cd) s ∧ (cd = 0 ∨ cd = 1) ∧ StaticIs s "java/lang/String" "COMPACT_STRINGS" "Z" (.int z) ∧ ¬ z = 0
def E (cd : Int32) (r : Option Value) (s u : State) : Prop := XT.PureE (some (.int (1 - cd))) r s u
theorem law (l : Launch) (x : Addr) (cd z : Int32) : Law l yN 1 0 0 0 yB 1 (some .boolean) site (P x cd z) (E cd) [] 0 0 := by
  refine Law.of_walk (plainFor_of_name (by decide +kernel)) (by decide +kernel) (by decide +kernel) (by decide) (fun _ _ h => by rw [h.1]; rfl) (fun _ U U' hal hh h => ⟨h.1, h.2.1.mv hal hh, h.2.2.1, h.2.2.2.1.there hal hh, h.2.2.2.2⟩) (fun r U U' V V' h1 hal h2 h => XT.PureE.mv r U U' V V' h1 hal h2 h) ?_
  intro p e s m args below meth c s₁ X0 hexec hbytes hml hret hlk hnm hown hh0 W hP
  obtain ⟨rfl, hx, hc, s1, hz⟩ := hP
  have c1 : Steps p.tables e below (s₁.setTop (entryFrame m #[.ref x] 1)) (s₁.setTop (mkF m 0 #[.val (.ref x)] [])) := entry rfl
  obtain ⟨T2, X2, q2, st2⟩ := X0.sget hexec hown (wk W (.fieldLink "java/lang/String" 38 "java/lang/String" "COMPACT_STRINGS" "Z")) s1 (fun _ _ h => by rw [hh0]; exact h) (g := (mkF m 0 #[.val (.ref x)] [])) rfl (hb hbytes d0)
  have hh2 := q2.trans hh0
  have c3 : Steps p.tables e below (s₁.setTop (entryFrame m #[.ref x] 1)) (T2.setTop (mkF m 7 #[.val (.ref x)] [.ref x])) := (c1.trans (st2 _ (Steps.refl _))).trans (by
    refine XS.ifNo X2.here hexec rfl (hb hbytes d3) rfl (i0_eq_f hz) ?_
    refine XS.aloadN X2.here hexec rfl (hb hbytes d6) rfl rfl ?_
    exact Steps.refl _)
  obtain ⟨T4, X4, q4, st4⟩ := X2.hget hexec hown (wk W (.fieldLink "java/lang/String" 15 "java/lang/String" "coder" "B")) (hx.mv X2.warmed.alike hh2) (g := (mkF m 7 #[.val (.ref x)] [.ref x])) rfl (rest := []) rfl (hb hbytes d7)
  have c5 : Steps p.tables e below (s₁.setTop (entryFrame m #[.ref x] 1)) (T4.setTop (mkF m 10 #[.val (.ref x)] [.int cd])) := c3.trans (st4 _ (Steps.refl _))
  have c6 : Steps p.tables e below (s₁.setTop (entryFrame m #[.ref x] 1)) (T4.setTop (mkF m 18 #[.val (.ref x)] [.int (1 - cd)])) := by
    rcases hc with rfl | rfl
    · exact c5.trans (by
        refine XS.ifNo X4.here hexec rfl (hb hbytes d10) rfl (i0_ne_f rfl) ?_
        refine iconstV X4.here hexec rfl 1 (hb hbytes d13) (by decide) ?_
        refine XS.goto X4.here hexec rfl (pc0 := 14) rfl (hb hbytes d14) (by decide) rfl ?_
        exact Steps.refl _)
    · exact c5.trans (by
        refine XS.ifYes X4.here hexec rfl (pc0 := 10) rfl (hb hbytes d10) rfl (i0_ne_t (by decide)) (by decide) rfl ?_
        refine iconstV X4.here hexec rfl 0 (hb hbytes d17) (by decide) ?_
        exact Steps.refl _)
  exact ⟨T4, some (.int (1 - cd)), _, _, _, X4, rfl, rfl, rfl, (fun h => by cases h), ⟨rfl, q4.trans hh2⟩, fun fs hl => c6.trans (X4.ireturnOut hexec hret (by rcases hc with rfl | rfl <;> rfl) (Or.inr (Or.inl rfl)) (hb hbytes d18) hl)⟩
end IsL
namespace LChA
def yN : MethodName := ⟨"java/lang/StringLatin1", "charAt", "([BI)C"⟩
abbrev yB : ByteArray := jdk_43_method_2_code
theorem d0 : decode yB 0 = .ok (.iload_n 1, 1) := by decide +kernel
theorem d1 : decode yB 1 = .ok (.aload_n 0, 1) := by decide +kernel
theorem d2 : decode yB 2 = .ok (.arraylength, 1) := by decide +kernel
theorem d3 : decode yB 3 = .ok (.invokestatic 9, 3) := by decide +kernel
theorem d6 : decode yB 6 = .ok (.aload_n 0, 1) := by decide +kernel
theorem d7 : decode yB 7 = .ok (.iload_n 1, 1) := by decide +kernel
theorem d8 : decode yB 8 = .ok (.baload, 1) := by decide +kernel
theorem d9 : decode yB 9 = .ok (.sipush 255, 3) := by decide +kernel
theorem d12 : decode yB 12 = .ok (.iand, 1) := by decide +kernel
theorem d13 : decode yB 13 = .ok (.i2c, 1) := by decide +kernel
theorem d14 : decode yB 14 = .ok (.ireturn, 1) := by decide +kernel
def site : List Cond := [JO.Str_checkIndex.tab] ++ staticW "java/lang/StringLatin1" 9 JO.Str_checkIndex.yN
def tab : Cond := tabOf yN yB 2 (some .char) site
def P (t : Addr) (V : Cell) (i : Nat) (u : Int32) (fm : Value) (args : Array Value) (s : State) : Prop := args = #[.ref t, .int (Int32.ofNat i)] ∧ XT.Arr .byte t V s ∧ V.slots[i]? = some (.int u) ∧ (StaticIs s "jdk/internal/util/Preconditions" "SIOOBE_FORMATTER" "Ljava/util/function/BiFunction;" fm ∧ fm.isRef = true)
def E (u : Int32) (r : Option Value) (s w : State) : Prop := XT.PureE (some (.int (chr8 u))) r s w
theorem law (l : Launch) (t : Addr) (V : Cell) (i : Nat) (u : Int32) (fm : Value) : Law l yN 2 2 2 27 yB 2 (some .char) site (P t V i u fm) (E u) [] 0 0 := by
  refine Law.of_walk (plainFor_of_name (by decide +kernel)) (by decide +kernel) (by decide +kernel) (by decide) (fun _ _ h => by rw [h.1]; rfl) (fun _ U U' hal hh h => ⟨h.1, h.2.1.mv hal hh, h.2.2.1, h.2.2.2.1.there hal hh, h.2.2.2.2⟩) (fun r U U' V V' h1 hal h2 h => XT.PureE.mv r U U' V V' h1 hal h2 h) ?_
  intro p e s m args below meth c s₁ X0 hexec hbytes hml hret hlk hnm hown hh0 W hP
  obtain ⟨rfl, hV, hu, s1, rf⟩ := hP
  have v31 := hV.2.2.2
  have hi : i < V.slots.size := (Array.getElem?_eq_some_iff.mp hu).1
  have c1 : Steps p.tables e below (s₁.setTop (entryFrame m #[.ref t, .int (Int32.ofNat i)] 2)) (s₁.setTop (mkF m 0 #[.val (.ref t), .val (.int (Int32.ofNat i))] [])) := entry rfl
  have c2 : Steps p.tables e below (s₁.setTop (entryFrame m #[.ref t, .int (Int32.ofNat i)] 2)) (s₁.setTop (mkF m 3 #[.val (.ref t), .val (.int (Int32.ofNat i))] [.int (Int32.ofNat V.slots.size), .int (Int32.ofNat i)])) := c1.trans (by
    refine XS.iloadN X0.here hexec rfl (hb hbytes d0) rfl ?_
    refine XS.aloadN X0.here hexec rfl (hb hbytes d1) rfl rfl ?_
    refine X0.alen hexec (hV.mv X0.warmed.alike hh0) rfl rfl (hb hbytes d2) ?_
    exact Steps.refl _)
  obtain ⟨v3, T3, X3, E3, g3⟩ := X0.callS hexec (JO.Str_checkIndex.law l (Int32.ofNat i) (Int32.ofNat V.slots.size) fm) hown (wks W (staticW "java/lang/StringLatin1" 9 JO.Str_checkIndex.yN)) (wk W JO.Str_checkIndex.tab) (W := 0) (Nat.le_of_ble_eq_true rfl) (Nat.le_of_ble_eq_true rfl) (Nat.le_refl _) (Nat.le_refl _) (g := (mkF m 3 #[.val (.ref t), .val (.int (Int32.ofNat i))] [.int (Int32.ofNat V.slots.size), .int (Int32.ofNat i)])) rfl (by rw [hml]; rfl) c2 (argsL := [.int (Int32.ofNat i), .int (Int32.ofNat V.slots.size)]) (rest := []) rfl rfl (by show 2 * 0 + 0 ≤ _; decide) (hb hbytes d3) (⟨rfl, rf, s1.there X0.warmed.alike hh0, Int32.ofNat_not_neg (by omega), lt32 v31 hi⟩)
  obtain ⟨rfl, q3⟩ := E3
  have hh3 := q3.trans hh0
  have c4 : Steps p.tables e below (s₁.setTop (entryFrame m #[.ref t, .int (Int32.ofNat i)] 2)) (T3.setTop (mkF m 14 #[.val (.ref t), .val (.int (Int32.ofNat i))] [.int (chr8 u)])) := Steps.trans g3 (by
    refine XS.aloadN X3.here hexec rfl (hb hbytes d6) rfl rfl ?_
    refine XS.iloadN X3.here hexec rfl (hb hbytes d7) rfl ?_
    refine X3.aget hexec (hV.mv X3.warmed.alike hh3) rfl hu rfl rfl (hb hbytes d8) ?_
    refine sipushV X3.here hexec rfl 255 (hb hbytes d9) (by decide) ?_
    refine XS.iand X3.here hexec rfl (hb hbytes d12) rfl ?_
    refine i2c X3.here hexec rfl (hb hbytes d13) rfl ?_
    exact Steps.refl _)
  exact ⟨T3, some (.int (chr8 u)), _, _, _, X3, rfl, rfl, rfl, (fun h => by cases h), ⟨rfl, hh3⟩, fun fs hl => c4.trans (X3.ireturnOut hexec hret (narrow_c _) (Or.inr (Or.inr (Or.inr (Or.inl rfl)))) (hb hbytes d14) hl)⟩
end LChA
end StrChars
namespace StrChars.Road
open Jvm Sem ClassFile Op Lib Jvm.Stand Jvm.Free Jvm.Free.XT
open Jvm.Lib.Cold (StaticIs)
theorem consq {a : Array Value} {s : State} {c : Jvm.Cond} {L : List Jvm.Cond} (h0 : c.before a s = true) (h : ∀ w ∈ L, w.before a s = true) : ∀ w ∈ c :: L, w.before a s = true := fun w hw => (List.mem_cons.mp hw).elim (fun e => e ▸ h0) (h w)
/-- the words of String.length(), either coding -/
abbrev wordsLen : List Jvm.Cond := [.code Len.yN Len.yB 1 (some .int), .initialized ST, .fieldLink ST 9 ST "value" "[B", .fieldLink ST 38 ST "COMPACT_STRINGS" "Z", .fieldLink ST 15 ST "coder" "B", .code Cdr.yN Cdr.yB 1 (some .byte), .methodLink ST 335 Cdr.yN, .declares Cdr.yN, .selects ST Cdr.yN Cdr.yN, .instanceMethod Cdr.yN]
theorem tabLen_of {a : Array Value} {s : State} (h : ∀ w ∈ wordsLen, w.before a s = true) : Len.tab.before a s = true := by
  have hc : Cdr.tab.before a s = true := unparts (wk h (.code Cdr.yN Cdr.yB 1 (some .byte))) (wks h (.initialized Cdr.yN.cls :: Cdr.site))
  have q := consq hc h
  exact unparts (wk q (.code Len.yN Len.yB 1 (some .int))) (wks q (.initialized Len.yN.cls :: Len.site))
theorem movedLen {Z s : State} {a0 args : Array Value} (hZ : Z.Warmed39 s.vm) (hw : ∀ d ∈ wordsLen, d.before a0 Z = true) : ∀ d ∈ wordsLen, d.before args s = true := fun d hd => by
  have q := hw d hd
  have t : ∀ d ∈ wordsLen, d = .arrayClass .byte ∨ (d.onTables && d.keepsFace) = true := by decide +kernel
  rcases t d hd with rfl | t
  · exact RoadKit.mvA hZ q
  · exact RoadKit.mv hZ q t
/-- the bytes of the chars cs, low before high -/
def wideBytes : List Int32 → List Value
  | [] => []
  | c :: cs => .int (lo8 c) :: .int (hi8 c) :: wideBytes cs
theorem wide_lo (d : Value) : ∀ (cs : List Int32) (j : Nat), j < cs.length → (wideBytes cs).getD (2 * j) d = .int (lo8 (cs.getD j 0))
  | [], j, h => absurd h (Nat.not_lt_zero j)
  | c :: cs, 0, _ => rfl
  | c :: cs, j + 1, h => by
    have q := wide_lo d cs j (by simpa using h)
    rw [show 2 * (j + 1) = 2 * j + 1 + 1 from by omega]
    simpa [wideBytes] using q
theorem wide_hi (d : Value) : ∀ (cs : List Int32) (j : Nat), j < cs.length → (wideBytes cs).getD (2 * j + 1) d = .int (hi8 (cs.getD j 0))
  | [], j, h => absurd h (Nat.not_lt_zero j)
  | c :: cs, 0, _ => rfl
  | c :: cs, j + 1, h => by
    have q := wide_hi d cs j (by simpa using h)
    rw [show 2 * (j + 1) + 1 = 2 * j + 1 + 1 + 1 from by omega]
    simpa [wideBytes] using q
theorem low_at (d : Value) (cs : List Int32) (j : Nat) (h : j < cs.length) : (cs.map fun c => Value.int (lo8 c)).getD j d = .int (lo8 (cs.getD j 0)) := by
  simp [List.getD_eq_getElem?_getD, h]
/-- an array of N2 bytes vs codes the chars cs by the coder cd -/
def CodA (cs : List Int32) (cd N2 : Int32) (vs : List Value) : Prop := (cd = 0 ∧ N2 = Int32.ofNat cs.length ∧ vs = (cs.map fun c => Value.int (lo8 c)) ∧ ∀ c ∈ cs, ¬ 255 < c) ∨ (cd = 1 ∧ N2 = Int32.ofNat (2 * cs.length) ∧ vs = wideBytes cs ∧ ∃ c ∈ cs, 255 < c)
theorem CodA.cod {cs : List Int32} {cd N2 : Int32} {vs : List Value} {V : Cell} (h : CodA cs cd N2 vs) (hn : 2 * cs.length < 2 ^ 31) (hs : V.slots.size = N2.toNatClampNeg) (hv : RoadKit.Has V vs (.int 0)) : Cod cd cs.length (fun j => cs.getD j 0) V := by
  rcases h with ⟨rfl, rfl, rfl, h⟩ | ⟨rfl, rfl, rfl, c, hc, hw⟩
  · rw [n32 (by omega)] at hs
    exact Or.inl ⟨rfl, hs, fun j hj => ⟨by rw [hv j (by omega), low_at _ _ _ hj], by
      have e : cs.getD j 0 = cs[j] := by simp [List.getD_eq_getElem?_getD, hj]
      show ¬ 255 < cs.getD j 0
      rw [e]; exact h _ (List.getElem_mem _)⟩⟩
  · rw [n32 (by omega)] at hs
    obtain ⟨j, hj, rfl⟩ := List.getElem_of_mem hc
    exact Or.inr ⟨rfl, hs, fun j hj => ⟨by rw [hv _ (by omega), wide_lo _ _ _ hj], by rw [hv _ (by omega), wide_hi _ _ _ hj]⟩, j, hj, by
      have e : cs.getD j 0 = cs[j] := by simp [List.getD_eq_getElem?_getD, hj]
      show 255 < cs.getD j 0
      rw [e]; exact hw⟩
/-- an object of exactly java/lang/String, its two fields found: as the laws ask it -/
theorem strObj {Z U : State} {a0 : Array Value} {kI : Nat} (wi : (Jvm.Cond.instantiable ST kI).before a0 Z = true) (al : Z.vm.Alike U.vm) {x : Addr} {v0 c0 : Value} (E : RoadKit.Exa Z U.heap x ST) (V : RoadKit.Fld Z U.heap x ST "value" "[B" v0) (C : RoadKit.Fld Z U.heap x ST "coder" "B" c0) :
    ∃ (D : Cell) (fV fC : Field), Blank ST x D U ∧ Found ST "value" "[B" fV U ∧ Found ST "coder" "B" fC U ∧ D.slots[fV.slot]? = some v0 ∧ D.slots[fC.slot]? = some c0 ∧ RoadKit.slotOf Z ST "value" "[B" = fV.slot ∧ RoadKit.slotOf Z ST "coder" "B" = fC.slot := by
  obtain ⟨D, cfV, kV, iV, fV, hD, gV, stV, knV, obV, asV, slV⟩ := V
  obtain ⟨D', cfC, kC, iC, fC, hD', gC, stC, -, -, asC, slC⟩ := C
  cases hD.symm.trans hD'
  obtain ⟨D2, kD, e1, e2, e3, e4, e5⟩ := E
  cases hD.symm.trans e1
  obtain ⟨c2, k2, i1, i2, i3, -⟩ := Cond.instantiable_spec wi
  cases e2.symm.trans i1
  cases e3.symm.trans i2
  obtain ⟨kU, u1, u2⟩ := al.2.2 _ _ e3
  exact ⟨D, fV, fC, ⟨hD, ⟨knV, fun q hq => by rw [hq] at obV; cases obV⟩, by rw [al.findClass]; exact e2, kU, u1, by rw [u2]; exact i3, by rw [u2]; exact e5 i3⟩, ⟨SBG.found_only al ⟨cfV, kV, iV, gV⟩, stV⟩, ⟨SBG.found_only al ⟨cfC, kC, iC, gC⟩, stC⟩, slV, slC, by simp [RoadKit.slotOf, gV], by simp [RoadKit.slotOf, gC]⟩
theorem sta_is {Z U : State} (al : Z.vm.Alike U.vm) {C n d : String} {v : Value} (S : RoadKit.Sta Z U.heap C n d v) : StaticIs U C n d v := by
  obtain ⟨cfS, iS, kS, fS, st, cS, t1, t2, t3, t4, t5, t6, t7⟩ := S
  exact StaticIs.there (s := { Z with heap := U.heap }) ⟨cfS, iS, kS, fS, st, cS, t1, t2, t3, t4, t5, (fun q => by rw [q] at t6; cases t6), t7⟩ al rfl
/-- **length() OF SUCH A STRING** -/
theorem lenW {p : Program} {l : Launch} {e : Env} {R : Room} {s : State} {args : Array Value} {below : List Frame} {len W : Nat} {Z : State} {a0 : Array Value} {h : Heap} (hZ : Z.Warmed39 s.vm) (hw : ∀ d ∈ wordsLen, d.before a0 Z = true) {kI : Nat} (wi : (Jvm.Cond.instantiable ST kI).before a0 Z = true)
    {x t : Addr} {kb : ClassId} {cs : List Int32} {cd N2 z : Int32} {vs : List Value} (E : RoadKit.Exa Z h x ST) (V : RoadKit.Fld Z h x ST "value" "[B" (.ref t)) (C : RoadKit.Fld Z h x ST "coder" "B" (.int cd)) (K : RoadKit.Arv Z h t kb .byte N2 vs (.int 0)) (hc : CodA cs cd N2 vs) (hb : ∀ c ∈ cs, ¬ c < 0 ∧ ¬ (65535 : Int32) < c)
    (S : RoadKit.Sta Z h ST "COMPACT_STRINGS" "Z" (.int z)) (hz : ¬ z = 0) (l2 : cs.length ≤ 4000) (hfr : 2 ≤ R.frames) (hlo : W + 25 ≤ R.locals) :
    Back l R p e below s args (⟨"java/lang/String", "length", "()I"⟩ : MethodName) len W (fun P a => a = #[.ref x] ∧ P.U.heap = h ∧ P.cells + 0 ≤ R.cells ∧ P.slots + 0 ≤ R.slots)
      (fun P _ v B => ∃ L, (v = some (.int (Int32.ofNat cs.length)) ∧ L = [] ∧ B.U.heap = h) ∧ B.locs = P.locs ++ L ∧ B.cells = P.cells + 0 ∧ B.slots = P.slots + 0) := by
  obtain ⟨A, K1, K2, K3, K4, K5, K6⟩ := K
  have hcod := hc.cod (by omega) K3 K5
  intro m meth c P g ig mk a X hg hsize hdg hW hn hp'
  obtain ⟨rfl, rfl, r1, r2⟩ := hp'
  have al : Z.vm.Alike P.U.vm := hZ.alike.trans X.warmed.alike
  obtain ⟨D, fV, fC, hB, F1, F2, g1, g2, -, -⟩ := strObj wi al E V C
  have hx : Txt x t A cd cs.length (fun j => cs.getD j 0) P.U := ⟨⟨_, hB.2.2.1, D, hB.1, rfl, by cases q : D.vm <;> first | rfl | exact absurd q (hB.2.1.2 _)⟩, Has.of hB F1 g1, Has.of hB F2 g2, ⟨K1.1, State.isArrayOf_alike al K1.2.1, K1.2.2, by rcases hcod with ⟨-, q, -⟩ | ⟨-, q, -⟩ <;> omega⟩, hcod, fun j hj => by
    have e : cs.getD j 0 = cs[j] := by simp [List.getD_eq_getElem?_getD, hj]
    show ¬ cs.getD j 0 < 0 ∧ ¬ 65535 < cs.getD j 0
    rw [e]; exact hb _ (List.getElem_mem _)⟩
  obtain ⟨v, B, X', ⟨⟨hv, hh⟩, hl, hk, hs⟩, st⟩ := Len.pays x t A cd cs.length (fun j => cs.getD j 0) z (tabLen_of (movedLen hZ hw)) hfr hlo m meth c P g ig mk _ X hg hsize hdg hW hn ⟨r1, r2, rfl, hx, sta_is al S, hz⟩
  exact ⟨v, B, X', ⟨[], ⟨hv, rfl, hh⟩, hl, hk, hs⟩, st⟩
end StrChars.Road
namespace StrChars.Road
open Jvm Sem ClassFile Op Lib Jvm.Stand Jvm.Free Jvm.Free.XT
open Jvm.Lib.Cold (StaticIs)
/-- the road's facts of a String, as the laws ask it -/
theorem txt_of {Z U : State} {a0 : Array Value} {kI : Nat} (wi : (Jvm.Cond.instantiable ST kI).before a0 Z = true) (al : Z.vm.Alike U.vm) {x t : Addr} {kb : ClassId} {cs : List Int32} {cd N2 : Int32} {vs : List Value} (E : RoadKit.Exa Z U.heap x ST) (V : RoadKit.Fld Z U.heap x ST "value" "[B" (.ref t)) (C : RoadKit.Fld Z U.heap x ST "coder" "B" (.int cd)) (K : RoadKit.Arv Z U.heap t kb .byte N2 vs (.int 0)) (hc : CodA cs cd N2 vs) (hb : ∀ c ∈ cs, ¬ c < 0 ∧ ¬ (65535 : Int32) < c) (l2 : cs.length ≤ 4000) :
    ∃ A, Txt x t A cd cs.length (fun j => cs.getD j 0) U := by
  obtain ⟨A, K1, K2, K3, K4, K5, K6⟩ := K
  have hcod := hc.cod (by omega) K3 K5
  obtain ⟨D, fV, fC, hB, F1, F2, g1, g2, -, -⟩ := strObj wi al E V C
  exact ⟨A, ⟨_, hB.2.2.1, D, hB.1, rfl, by cases q : D.vm <;> first | rfl | exact absurd q (hB.2.1.2 _)⟩, Has.of hB F1 g1, Has.of hB F2 g2, ⟨K1.1, State.isArrayOf_alike al K1.2.1, K1.2.2, by rcases hcod with ⟨-, q, -⟩ | ⟨-, q, -⟩ <;> omega⟩, hcod, fun j hj => by
    have e : cs.getD j 0 = cs[j] := by simp [List.getD_eq_getElem?_getD, hj]
    show ¬ cs.getD j 0 < 0 ∧ ¬ 65535 < cs.getD j 0
    rw [e]; exact hb _ (List.getElem_mem _)⟩
end StrChars.Road
namespace StrChars
open Jvm Sem ClassFile Op Lib Jvm.Stand Jvm.Free.XT Jvm.Free.ALB Jvm.Free.JM Jvm.Free
open Jvm.Lib.Cold (StaticIs)
namespace ChN
def yN : MethodName := ⟨"java/lang/String", "charAt", "(I)C"⟩
abbrev yB : ByteArray := jdk_42_method_56_code
theorem d0 : decode yB 0 = .ok (.aload_n 0, 1) := by decide +kernel
theorem d1 : decode yB 1 = .ok (.invokevirtual 492, 3) := by decide +kernel
theorem d4 : decode yB 4 = .ok (.ifCond (.eq) 12, 3) := by decide +kernel
theorem d7 : decode yB 7 = .ok (.aload_n 0, 1) := by decide +kernel
theorem d8 : decode yB 8 = .ok (.getfield 9, 3) := by decide +kernel
theorem d11 : decode yB 11 = .ok (.iload_n 1, 1) := by decide +kernel
theorem d12 : decode yB 12 = .ok (.invokestatic 495, 3) := by decide +kernel
theorem d15 : decode yB 15 = .ok (.ireturn, 1) := by decide +kernel
def site : List Cond := [.fieldLink "java/lang/String" 9 "java/lang/String" "value" "[B", IsL.tab, LChA.tab] ++ virtW "java/lang/String" 492 "java/lang/String" IsL.yN IsL.yN ++ staticW "java/lang/String" 495 LChA.yN
def tab : Cond := tabOf yN yB 2 (some .char) site
def P (x t : Addr) (V : Cell) (n : Nat) (f : Nat → Int32) (z : Int32) (fm : Value) (i : Nat) (args : Array Value) (s : State) : Prop := args = #[.ref x, .int (Int32.ofNat i)] ∧ Txt x t V 0 n f s ∧ i < n ∧ StaticIs s "java/lang/String" "COMPACT_STRINGS" "Z" (.int z) ∧ ¬ z = 0 ∧ StaticIs s "jdk/internal/util/Preconditions" "SIOOBE_FORMATTER" "Ljava/util/function/BiFunction;" fm ∧ fm.isRef = true
def E (f : Nat → Int32) (i : Nat) (r : Option Value) (s u : State) : Prop := XT.PureE (some (.int (f i))) r s u
/-- charAt(i) of a Latin-1 String of n chars, i < n: f i -/
theorem law (l : Launch) (x t : Addr) (V : Cell) (n : Nat) (f : Nat → Int32) (z : Int32) (fm : Value) (i : Nat) : Law l yN 2 1 3 40 yB 2 (some .char) site (P x t V n f z fm i) (E f i) [] 0 0 := by
  refine Law.of_walk (plainFor_of_name (by decide +kernel)) (by decide +kernel) (by decide +kernel) (by decide) (fun _ _ h => by rw [h.1]; rfl) (fun _ U U' hal hh h => ⟨h.1, h.2.1.mv hal hh, h.2.2.1, h.2.2.2.1.there hal hh, h.2.2.2.2.1, h.2.2.2.2.2.1.there hal hh, h.2.2.2.2.2.2⟩) (fun r U U' V V' h1 hal h2 h => XT.PureE.mv r U U' V V' h1 hal h2 h) ?_
  intro p e s m args below meth c s₁ X0 hexec hbytes hml hret hlk hnm hown hh0 W hP
  obtain ⟨rfl, hx, hi, s1, hz, s3, rf⟩ := hP
  have v31 := hx.2.2.2.1.2.2.2
  have hr := hx.2.2.2.2.2 i hi
  have hx0 := hx.mv X0.warmed.alike hh0
  have c1 : Steps p.tables e below (s₁.setTop (entryFrame m #[.ref x, .int (Int32.ofNat i)] 2)) (s₁.setTop (mkF m 1 #[.val (.ref x), .val (.int (Int32.ofNat i))] [.ref x])) := Steps.trans (entry rfl) (by
    show Steps p.tables e below (s₁.setTop (mkF m 0 #[.val (.ref x), .val (.int (Int32.ofNat i))] [])) _
    refine XS.aloadN X0.here hexec rfl (hb hbytes d0) rfl rfl ?_
    exact Steps.refl _)
  obtain ⟨v2, T2, X2, E2, g2⟩ := X0.callV hexec (IsL.law l x 0 z) hown (wks W (virtW "java/lang/String" 492 "java/lang/String" IsL.yN IsL.yN)) rfl (by decide) (wk W IsL.tab) (W := 0) (Nat.le_of_ble_eq_true rfl) (Nat.le_of_ble_eq_true rfl) (Nat.le_refl _) (Nat.le_refl _) (hx0.1.fc X0.warmed.alike) hx0.1.is (g := (mkF m 1 #[.val (.ref x), .val (.int (Int32.ofNat i))] [.ref x])) rfl (by rw [hml]; rfl) c1 (argsL := []) (rest := []) rfl rfl (by show 2 * 0 + 0 ≤ _; decide) (hb hbytes d1) (⟨rfl, hx0.2.2.1, hx.2.2.2.2.1.cd, s1.there X0.warmed.alike hh0, hz⟩)
  obtain ⟨rfl, q2⟩ := E2
  have hh2 := q2.trans hh0
  have hx2 := hx.mv X2.warmed.alike hh2
  obtain ⟨-, k1, k2⟩ | ⟨k0, -⟩ := hx.2.2.2.2.1
  · have c3 : Steps p.tables e below (s₁.setTop (entryFrame m #[.ref x, .int (Int32.ofNat i)] 2)) (T2.setTop (mkF m 8 #[.val (.ref x), .val (.int (Int32.ofNat i))] [.ref x])) := Steps.trans g2 (by
      refine XS.ifNo X2.here hexec rfl (hb hbytes d4) rfl (i0_eq_f (by decide)) ?_
      refine XS.aloadN X2.here hexec rfl (hb hbytes d7) rfl rfl ?_
      exact Steps.refl _)
    obtain ⟨T4, X4, q4, st4⟩ := X2.hget hexec hown (wk W (.fieldLink "java/lang/String" 9 "java/lang/String" "value" "[B")) hx2.2.1 (g := (mkF m 8 #[.val (.ref x), .val (.int (Int32.ofNat i))] [.ref x])) rfl (rest := []) rfl (hb hbytes d8)
    have hh4 := q4.trans hh2
    have c5 : Steps p.tables e below (s₁.setTop (entryFrame m #[.ref x, .int (Int32.ofNat i)] 2)) (T4.setTop (mkF m 12 #[.val (.ref x), .val (.int (Int32.ofNat i))] [.int (Int32.ofNat i), .ref t])) := (c3.trans (st4 _ (Steps.refl _))).trans (by
      refine XS.iloadN X4.here hexec rfl (hb hbytes d11) rfl ?_
      exact Steps.refl _)
    obtain ⟨v6, T6, X6, E6, g6⟩ := X4.callS hexec (LChA.law l t V i (lo8 (f i)) fm) hown (wks W (staticW "java/lang/String" 495 LChA.yN)) (wk W LChA.tab) (W := 0) (Nat.le_of_ble_eq_true rfl) (Nat.le_of_ble_eq_true rfl) (Nat.le_refl _) (Nat.le_refl _) (g := (mkF m 12 #[.val (.ref x), .val (.int (Int32.ofNat i))] [.int (Int32.ofNat i), .ref t])) rfl (by rw [hml]; rfl) c5 (argsL := [.ref t, .int (Int32.ofNat i)]) (rest := []) rfl rfl (by show 2 * 0 + 0 ≤ _; decide) (hb hbytes d12) (⟨rfl, hx.2.2.2.1.mv X4.warmed.alike hh4, (k2 i hi).1, s3.there X4.warmed.alike hh4, rf⟩)
    obtain ⟨rfl, q6⟩ := E6
    rw [chr8_lo8 hr.1 (k2 i hi).2] at g6
    exact ⟨T6, some (.int (f i)), _, _, _, X6, rfl, rfl, rfl, (fun h => by cases h), ⟨rfl, q6.trans hh4⟩, fun fs hl => Steps.trans g6 (X6.ireturnOut hexec hret (narrow_ch hr.1 hr.2) (Or.inr (Or.inr (Or.inr (Or.inl rfl)))) (hb hbytes d15) hl)⟩
  · exact absurd k0 (by decide)
theorem pays {l : Launch} {R : Room} {p : Program} {e : Env} {below : List Frame} {s : State} {sargs : Array Value} {len W : Nat} (x t : Addr) (V : Cell) (n : Nat) (f : Nat → Int32) (z : Int32) (fm : Value) (i : Nat) (htab : tab.before sargs s = true) (hfr : 4 ≤ R.frames) (hlo : W + 53 ≤ R.locals) :
    Back l R p e below s sargs yN len W (fun A₁ a₁ => A₁.cells + 0 ≤ R.cells ∧ A₁.slots + 0 ≤ R.slots ∧ P x t V n f z fm i a₁ A₁.U) (fun A₁ _ v₁ B₁ => E f i v₁ A₁.U B₁.U ∧ B₁.locs = A₁.locs ++ [] ∧ B₁.cells = A₁.cells + 0 ∧ B₁.slots = A₁.slots + 0) :=
  (law l x t V n f z fm i).pays htab hfr (by omega)
end ChN
end StrChars
namespace StrChars.Road
open Jvm Sem ClassFile Op Lib Jvm.Stand Jvm.Free Jvm.Free.XT
open Jvm.Lib.Cold (StaticIs)
/-- the words of String.charAt(int), the Latin-1 road alone -/
abbrev wordsChN : List Jvm.Cond := [.code ChN.yN ChN.yB 2 (some .char), .initialized ST, .fieldLink ST 9 ST "value" "[B", .fieldLink ST 38 ST "COMPACT_STRINGS" "Z", .fieldLink ST 15 ST "coder" "B", .code IsL.yN IsL.yB 1 (some .boolean), .methodLink ST 492 IsL.yN, .declares IsL.yN, .selects ST IsL.yN IsL.yN, .instanceMethod IsL.yN,
  .methodLink ST 495 LChA.yN, .static LChA.yN, .code LChA.yN LChA.yB 2 (some .char), .initialized "java/lang/StringLatin1", .methodLink "java/lang/StringLatin1" 9 JO.Str_checkIndex.yN, .static JO.Str_checkIndex.yN, .code JO.Str_checkIndex.yN JO.Str_checkIndex.yB 2 none,
  .fieldLink ST 1053 "jdk/internal/util/Preconditions" "SIOOBE_FORMATTER" "Ljava/util/function/BiFunction;", .methodLink ST 1059 JC.PreCheck.yN, .static JC.PreCheck.yN, .code JC.PreCheck.yN JC.PreCheck.yB 3 (some .int), .initialized "jdk/internal/util/Preconditions"]
theorem tabChN_of {a : Array Value} {s : State} (h : ∀ w ∈ wordsChN, w.before a s = true) : ChN.tab.before a s = true := by
  have hp : JC.PreCheck.tab.before a s = true := unparts (wk h (.code JC.PreCheck.yN JC.PreCheck.yB 3 (some .int))) (wks h (.initialized JC.PreCheck.yN.cls :: JC.PreCheck.site))
  have qk := consq hp h
  have hk : JO.Str_checkIndex.tab.before a s = true := unparts (wk qk (.code JO.Str_checkIndex.yN JO.Str_checkIndex.yB 2 none)) (wks qk (.initialized JO.Str_checkIndex.yN.cls :: JO.Str_checkIndex.site))
  have ql := consq hk h
  have hl : LChA.tab.before a s = true := unparts (wk ql (.code LChA.yN LChA.yB 2 (some .char))) (wks ql (.initialized LChA.yN.cls :: LChA.site))
  have hi : IsL.tab.before a s = true := unparts (wk h (.code IsL.yN IsL.yB 1 (some .boolean))) (wks h (.initialized IsL.yN.cls :: IsL.site))
  have q := consq hi (consq hl h)
  exact unparts (wk q (.code ChN.yN ChN.yB 2 (some .char))) (wks q (.initialized ChN.yN.cls :: ChN.site))
theorem movedChN {Z s : State} {a0 args : Array Value} (hZ : Z.Warmed39 s.vm) (hw : ∀ d ∈ wordsChN, d.before a0 Z = true) : ∀ d ∈ wordsChN, d.before args s = true := fun d hd => by
  have t : ∀ d ∈ wordsChN, (d.onTables && d.keepsFace) = true := by decide +kernel
  exact RoadKit.mv hZ (hw d hd) (t d hd)
/-- **charAt(i) OF A LATIN-1 STRING**, i < n: the char -/
theorem chN {p : Program} {l : Launch} {e : Env} {R : Room} {s : State} {args : Array Value} {below : List Frame} {len W : Nat} {Z : State} {a0 : Array Value} {h : Heap} (hZ : Z.Warmed39 s.vm) (hw : ∀ d ∈ wordsChN, d.before a0 Z = true) {kI : Nat} (wi : (Jvm.Cond.instantiable ST kI).before a0 Z = true)
    {x t : Addr} {kb : ClassId} {cs : List Int32} {N2 z : Int32} {vs : List Value} {fm : Value} {i : Nat} {j : Int32} (E : RoadKit.Exa Z h x ST) (V : RoadKit.Fld Z h x ST "value" "[B" (.ref t)) (C : RoadKit.Fld Z h x ST "coder" "B" (.int 0)) (K : RoadKit.Arv Z h t kb .byte N2 vs (.int 0)) (hc : CodA cs 0 N2 vs) (hb : ∀ c ∈ cs, ¬ c < 0 ∧ ¬ (65535 : Int32) < c)
    (S : RoadKit.Sta Z h ST "COMPACT_STRINGS" "Z" (.int z)) (hz : ¬ z = 0) (F : RoadKit.Sta Z h "jdk/internal/util/Preconditions" "SIOOBE_FORMATTER" "Ljava/util/function/BiFunction;" fm) (rf : fm.isRef = true) (l2 : cs.length ≤ 4000) (hi : i < cs.length) (hj : j = Int32.ofNat i) (hfr : 4 ≤ R.frames) (hlo : W + 53 ≤ R.locals) :
    Back l R p e below s args (⟨"java/lang/String", "charAt", "(I)C"⟩ : MethodName) len W (fun P a => a = #[.ref x, .int j] ∧ P.U.heap = h ∧ P.cells + 0 ≤ R.cells ∧ P.slots + 0 ≤ R.slots)
      (fun P _ v B => ∃ L, (v = some (.int (cs.getD i 0)) ∧ L = [] ∧ B.U.heap = h) ∧ B.locs = P.locs ++ L ∧ B.cells = P.cells + 0 ∧ B.slots = P.slots + 0) := by
  subst hj
  intro m meth c P g ig mk a X hg hsize hdg hW hn hp'
  obtain ⟨rfl, rfl, r1, r2⟩ := hp'
  have al : Z.vm.Alike P.U.vm := hZ.alike.trans X.warmed.alike
  obtain ⟨A, hx⟩ := txt_of wi al E V C K hc hb l2
  obtain ⟨v, B, X', ⟨⟨hv, hh⟩, hl, hk, hs⟩, st⟩ := ChN.pays x t A cs.length (fun j => cs.getD j 0) z fm i (tabChN_of (movedChN hZ hw)) hfr hlo m meth c P g ig mk _ X hg hsize hdg hW hn ⟨r1, r2, rfl, hx, hi, sta_is al S, hz, sta_is al F, rf⟩
  exact ⟨v, B, X', ⟨[], ⟨hv, rfl, hh⟩, hl, hk, hs⟩, st⟩
/-- what backV says of its String, as the contracts of this text ask it: cs's low bytes, coder 0 -/
theorem codOf {cs : List Int32} {n : Nat} (hn : cs.length = n) (hb : ∀ c ∈ cs, ¬ 255 < c) : CodA cs 0 (Int32.ofNat n) ((cs.map lo8).map Value.int) := Or.inl ⟨rfl, by rw [hn], by simp [List.map_map, Function.comp_def], hb⟩
end StrChars.Road
end Jvm.Pilot.@@N@@
namespace Jvm.Pilot.@@N@@
open Jvm Jvm.ClassFile Sem Op Lib Jvm.Free Jvm.Stand Jvm.LawKit Jvm.RoadKit Bundle Jvm.Pilot.@@N@@.Jvm.D
section OwnKit
variable {p : Program} {l : Launch} {e : Env} {R : Room} {s : State} {m : MethodId} {args : Array Value} {below : List Frame} {meth : Method} {c : Code} {T : State} {Z : State} {own mn : String} {bytes : ByteArray} {ml n0 k n : Nat} {rt : Option FieldType} {h : Heap} {G : Outcome → State → Prop} {pc q : Nat} {L : Array Slot} {st rest : List Value} {a0 : Array Value}
/-- the run from S comes to an end of which G speaks -/
def Goes (p : Program) (e : Env) (below : List Frame) (G : Outcome → State → Prop) (S : State) : Prop := ∃ s₂ o, Steps p.tables e below S s₂ ∧ s₂.status = .running ∧ Ended s₂ below o ∧ G o s₂
theorem go_st {S S' : State} (f : ∀ t, Steps p.tables e below S' t → Steps p.tables e below S t) (r : Goes p e below G S') : Goes p e below G S := by
  obtain ⟨s₂, o, a, b⟩ := r; exact ⟨s₂, o, f _ a, b⟩
theorem go_tr {S S' : State} (f : Steps p.tables e below S S') (r : Goes p e below G S') : Goes p e below G S := by
  obtain ⟨s₂, o, a, b⟩ := r; exact ⟨s₂, o, f.trans a, b⟩
/-- what a body's walk knows from its start on -/
def Cx (p : Program) (s : State) (m : MethodId) (meth : Method) (c : Code) (Z : State) (own : String) (bytes : ByteArray) (ml : Nat) (rt : Option FieldType) (mn : String) : Prop :=
  p.tables.exec = Jvm.exec ∧ Z.Warmed39 s.vm ∧ s.vm.findClass own = some m.cls ∧ c.code = bytes ∧ c.maxLocals = ml ∧ meth.sig.returnType = rt ∧ meth.locks = false ∧ meth.name = mn
/-- where it stands: the heap is h; all that was written lies at n0 or above; at most k cells and n slots are new -/
def St (p : Program) (l : Launch) (e : Env) (R : Room) (s : State) (m : MethodId) (args : Array Value) (below : List Frame) (meth : Method) (c : Code) (n0 : Nat) (T : State) (h : Heap) (k n : Nat) : Prop :=
  ∃ locs cells slots, Stand p l e R s m args below meth c T locs cells slots ∧ Fr n0 locs ∧ T.heap = h ∧ cells ≤ k ∧ slots ≤ n
def FinN (Q : Option Value → Heap → Prop) (s : State) (n0 k n : Nat) (o : Outcome) (U : State) : Prop := ∃ v L, o = .returned v ∧ (Fr n0 L ∧ Q v U.heap) ∧ FrameEnd s o U L k n
def Met (l : Launch) (Z : State) (y : MethodName) (bytes : ByteArray) (ml : Nat) (rt : Option FieldType) (rm : Room) (as' : Array Value) (h0 : Heap) (n0 : Nat) (Q : Option Value → Heap → Prop) : Prop :=
  ∀ ws : List Jvm.Cond, MetFree l y (head1 (Jvm.Cond.code y bytes ml rt :: ws) rm) (fun a U => a = as' ∧ Z.Warmed39 U.vm ∧ U.heap = h0) (fun _ _ _ _ _ => True) (fun _ U o U' => ∃ v L, o = .returned v ∧ (Fr n0 L ∧ Q v U'.heap) ∧ FrameEnd U o U' L rm.cells rm.slots)
abbrev Met1 (l : Launch) (Z : State) (y : MethodName) (bytes : ByteArray) (ml : Nat) (rt : Option FieldType) (rm : Room) (as' : Array Value) (h0 : Heap) (n0 : Nat) (Q : Value → Heap → Prop) : Prop := Met l Z y bytes ml rt rm as' h0 n0 (fun v h => ∃ w, v = some w ∧ Q w h)
abbrev Met0 (l : Launch) (Z : State) (y : MethodName) (bytes : ByteArray) (ml : Nat) (rt : Option FieldType) (rm : Room) (as' : Array Value) (h0 : Heap) (n0 : Nat) (Q : Heap → Prop) : Prop := Met l Z y bytes ml rt rm as' h0 n0 (fun v h => v = none ∧ Q h)
theorem met_of {y : MethodName} {rm : Room} {as' : Array Value} {Q : Option Value → Heap → Prop} (hp : plainFor y = true) (hef : ∀ m, entryFrame m as' ml = mkF m 0 L [])
    (body : ∀ (p : Program) (e : Env) (s : State) (m : MethodId) (below : List Frame) (meth : Method) (c : Code) (T : State), Cx p s m meth c Z y.cls bytes ml rt y.name → St p l e rm s m as' below meth c n0 T h 0 0 → Goes p e below (FinN Q s n0 rm.cells rm.slots) (T.setTop (mkF m 0 L []))) :
    Met l Z y bytes ml rt rm as' h n0 Q := by
  intro ws
  refine MetFree.of_bodySF hp hisR ?_
  intro p e s m args below meth c s₁ Bd hml hP hK
  obtain ⟨rfl, hZ, hh⟩ := hP
  have e0 : s₁.heap = h := by rw [← hh, Bd.state]; rfl
  have b := body p e s m below meth c s₁ ⟨Bd.exec, hZ, findClass_of_methodNamed Bd.named, Bd.bytes, hml, Bd.returns, BodyLoose.notSynchronized Bd, (name_of_methodNamed Bd.named Bd.method).1⟩ ⟨[], 0, 0, Stand.of_body Bd, Fr.nil _, e0, Nat.le_refl _, Nat.le_refl _⟩
  rw [hef m]
  exact b
theorem St.mono {k' n' : Nat} (X : St p l e R s m args below meth c n0 T h k n) (hk : k ≤ k') (hn : n ≤ n') : St p l e R s m args below meth c n0 T h k' n' := by
  obtain ⟨a, b, d, x, y, z, u, v⟩ := X; exact ⟨a, b, d, x, y, z, Nat.le_trans u hk, Nat.le_trans v hn⟩
theorem g_aloadN (C : Cx p s m meth c Z own bytes ml rt mn) (X : St p l e R s m args below meth c n0 T h k n) {j : Fin 4} {v : Value} (hd : decode bytes pc = .ok (.aload_n j, 1)) (hq : pc + 1 = q) (hl : L[j.val]? = some (.val v)) (hv : v.isRef = true) (r : Goes p e below G (T.setTop (mkF m q L (v :: st)))) : Goes p e below G (T.setTop (mkF m pc L (st))) := by
  obtain ⟨hx, -, -, hby, -⟩ := C
  obtain ⟨_, _, _, X, -⟩ := X
  subst hq 
  exact go_st (fun t k => XS.aloadN X.here hx rfl (hb hby hd) hl hv k) r
theorem g_aload (C : Cx p s m meth c Z own bytes ml rt mn) (X : St p l e R s m args below meth c n0 T h k n) {j : Nat} {v : Value} (hd : decode bytes pc = .ok (.aload j, 2)) (hq : pc + 2 = q) (hl : L[j]? = some (.val v)) (hv : v.isRef = true) (r : Goes p e below G (T.setTop (mkF m q L (v :: st)))) : Goes p e below G (T.setTop (mkF m pc L (st))) := by
  obtain ⟨hx, -, -, hby, -⟩ := C
  obtain ⟨_, _, _, X, -⟩ := X
  subst hq 
  exact go_st (fun t k => XS.aload X.here hx rfl (hb hby hd) hl hv k) r
theorem g_iloadN (C : Cx p s m meth c Z own bytes ml rt mn) (X : St p l e R s m args below meth c n0 T h k n) {j : Fin 4} {v : Int32} (hd : decode bytes pc = .ok (.iload_n j, 1)) (hq : pc + 1 = q) (hl : L[j.val]? = some (.val (.int v))) (r : Goes p e below G (T.setTop (mkF m q L (.int v :: st)))) : Goes p e below G (T.setTop (mkF m pc L (st))) := by
  obtain ⟨hx, -, -, hby, -⟩ := C
  obtain ⟨_, _, _, X, -⟩ := X
  subst hq 
  exact go_st (fun t k => XS.iloadN X.here hx rfl (hb hby hd) hl k) r
theorem g_iload (C : Cx p s m meth c Z own bytes ml rt mn) (X : St p l e R s m args below meth c n0 T h k n) {j : Nat} {v : Int32} (hd : decode bytes pc = .ok (.iload j, 2)) (hq : pc + 2 = q) (hl : L[j]? = some (.val (.int v))) (r : Goes p e below G (T.setTop (mkF m q L (.int v :: st)))) : Goes p e below G (T.setTop (mkF m pc L (st))) := by
  obtain ⟨hx, -, -, hby, -⟩ := C
  obtain ⟨_, _, _, X, -⟩ := X
  subst hq 
  exact go_st (fun t k => XS.iload X.here hx rfl (hb hby hd) hl k) r
theorem g_lloadN (C : Cx p s m meth c Z own bytes ml rt mn) (X : St p l e R s m args below meth c n0 T h k n) {j : Fin 4} {v : Int64} (hd : decode bytes pc = .ok (.lload_n j, 1)) (hq : pc + 1 = q) (hl : L[j.val]? = some (.val (.long v))) (r : Goes p e below G (T.setTop (mkF m q L (.long v :: st)))) : Goes p e below G (T.setTop (mkF m pc L (st))) := by
  obtain ⟨hx, -, -, hby, -⟩ := C
  obtain ⟨_, _, _, X, -⟩ := X
  subst hq 
  exact go_st (fun t k => XS.lloadN X.here hx rfl (hb hby hd) hl k) r
theorem g_lload (C : Cx p s m meth c Z own bytes ml rt mn) (X : St p l e R s m args below meth c n0 T h k n) {j : Nat} {v : Int64} (hd : decode bytes pc = .ok (.lload j, 2)) (hq : pc + 2 = q) (hl : L[j]? = some (.val (.long v))) (r : Goes p e below G (T.setTop (mkF m q L (.long v :: st)))) : Goes p e below G (T.setTop (mkF m pc L (st))) := by
  obtain ⟨hx, -, -, hby, -⟩ := C
  obtain ⟨_, _, _, X, -⟩ := X
  subst hq 
  exact go_st (fun t k => XS.lload X.here hx rfl (hb hby hd) hl k) r
theorem g_iconst (C : Cx p s m meth c Z own bytes ml rt mn) (X : St p l e R s m args below meth c n0 T h k n) {i : Int} {z : Int32} (hd : decode bytes pc = .ok (.iconst i, 1)) (hq : pc + 1 = q) (hz : Int32.ofInt i = z) (r : Goes p e below G (T.setTop (mkF m q L (.int z :: st)))) : Goes p e below G (T.setTop (mkF m pc L (st))) := by
  obtain ⟨hx, -, -, hby, -⟩ := C
  obtain ⟨_, _, _, X, -⟩ := X
  subst hq hz
  exact go_st (fun t k => XS.iconst X.here hx rfl (hb hby hd)  k) r
theorem g_bipush (C : Cx p s m meth c Z own bytes ml rt mn) (X : St p l e R s m args below meth c n0 T h k n) {i : Int} {z : Int32} (hd : decode bytes pc = .ok (.bipush i, 2)) (hq : pc + 2 = q) (hz : (Int8.ofInt i).toInt32 = z) (r : Goes p e below G (T.setTop (mkF m q L (.int z :: st)))) : Goes p e below G (T.setTop (mkF m pc L (st))) := by
  obtain ⟨hx, -, -, hby, -⟩ := C
  obtain ⟨_, _, _, X, -⟩ := X
  subst hq hz
  exact go_st (fun t k => XS.bipush X.here hx rfl (hb hby hd)  k) r
theorem g_sipush (C : Cx p s m meth c Z own bytes ml rt mn) (X : St p l e R s m args below meth c n0 T h k n) {i : Int} {z : Int32} (hd : decode bytes pc = .ok (.sipush i, 3)) (hq : pc + 3 = q) (hz : (Int16.ofInt i).toInt32 = z) (r : Goes p e below G (T.setTop (mkF m q L (.int z :: st)))) : Goes p e below G (T.setTop (mkF m pc L (st))) := by
  obtain ⟨hx, -, -, hby, -⟩ := C
  obtain ⟨_, _, _, X, -⟩ := X
  subst hq hz
  exact go_st (fun t k => XS.sipush X.here hx rfl (hb hby hd)  k) r
theorem g_aconstNull (C : Cx p s m meth c Z own bytes ml rt mn) (X : St p l e R s m args below meth c n0 T h k n)  (hd : decode bytes pc = .ok (.aconst_null, 1)) (hq : pc + 1 = q)  (r : Goes p e below G (T.setTop (mkF m q L (.null :: st)))) : Goes p e below G (T.setTop (mkF m pc L (st))) := by
  obtain ⟨hx, -, -, hby, -⟩ := C
  obtain ⟨_, _, _, X, -⟩ := X
  subst hq 
  exact go_st (fun t k => XS.aconstNull X.here hx rfl (hb hby hd)  k) r
theorem g_iadd (C : Cx p s m meth c Z own bytes ml rt mn) (X : St p l e R s m args below meth c n0 T h k n) {x y z : Int32} (hd : decode bytes pc = .ok (.iadd, 1)) (hq : pc + 1 = q) (hz : x + y = z) (r : Goes p e below G (T.setTop (mkF m q L (.int z :: st)))) : Goes p e below G (T.setTop (mkF m pc L (.int y :: .int x :: st))) := by
  obtain ⟨hx, -, -, hby, -⟩ := C
  obtain ⟨_, _, _, X, -⟩ := X
  subst hq hz
  exact go_st (fun t k => XS.iadd X.here hx rfl (hb hby hd) rfl k) r
theorem g_isub (C : Cx p s m meth c Z own bytes ml rt mn) (X : St p l e R s m args below meth c n0 T h k n) {x y z : Int32} (hd : decode bytes pc = .ok (.isub, 1)) (hq : pc + 1 = q) (hz : x - y = z) (r : Goes p e below G (T.setTop (mkF m q L (.int z :: st)))) : Goes p e below G (T.setTop (mkF m pc L (.int y :: .int x :: st))) := by
  obtain ⟨hx, -, -, hby, -⟩ := C
  obtain ⟨_, _, _, X, -⟩ := X
  subst hq hz
  exact go_st (fun t k => XS.isub X.here hx rfl (hb hby hd) rfl k) r
theorem g_imul (C : Cx p s m meth c Z own bytes ml rt mn) (X : St p l e R s m args below meth c n0 T h k n) {x y z : Int32} (hd : decode bytes pc = .ok (.imul, 1)) (hq : pc + 1 = q) (hz : x * y = z) (r : Goes p e below G (T.setTop (mkF m q L (.int z :: st)))) : Goes p e below G (T.setTop (mkF m pc L (.int y :: .int x :: st))) := by
  obtain ⟨hx, -, -, hby, -⟩ := C
  obtain ⟨_, _, _, X, -⟩ := X
  subst hq hz
  exact go_st (fun t k => XS.imul X.here hx rfl (hb hby hd) rfl k) r
theorem g_iand (C : Cx p s m meth c Z own bytes ml rt mn) (X : St p l e R s m args below meth c n0 T h k n) {x y z : Int32} (hd : decode bytes pc = .ok (.iand, 1)) (hq : pc + 1 = q) (hz : x &&& y = z) (r : Goes p e below G (T.setTop (mkF m q L (.int z :: st)))) : Goes p e below G (T.setTop (mkF m pc L (.int y :: .int x :: st))) := by
  obtain ⟨hx, -, -, hby, -⟩ := C
  obtain ⟨_, _, _, X, -⟩ := X
  subst hq hz
  exact go_st (fun t k => XS.iand X.here hx rfl (hb hby hd) rfl k) r
theorem g_ior (C : Cx p s m meth c Z own bytes ml rt mn) (X : St p l e R s m args below meth c n0 T h k n) {x y z : Int32} (hd : decode bytes pc = .ok (.ior, 1)) (hq : pc + 1 = q) (hz : x ||| y = z) (r : Goes p e below G (T.setTop (mkF m q L (.int z :: st)))) : Goes p e below G (T.setTop (mkF m pc L (.int y :: .int x :: st))) := by
  obtain ⟨hx, -, -, hby, -⟩ := C
  obtain ⟨_, _, _, X, -⟩ := X
  subst hq hz
  exact go_st (fun t k => XS.ior X.here hx rfl (hb hby hd) rfl k) r
theorem g_ixor (C : Cx p s m meth c Z own bytes ml rt mn) (X : St p l e R s m args below meth c n0 T h k n) {x y z : Int32} (hd : decode bytes pc = .ok (.ixor, 1)) (hq : pc + 1 = q) (hz : x ^^^ y = z) (r : Goes p e below G (T.setTop (mkF m q L (.int z :: st)))) : Goes p e below G (T.setTop (mkF m pc L (.int y :: .int x :: st))) := by
  obtain ⟨hx, -, -, hby, -⟩ := C
  obtain ⟨_, _, _, X, -⟩ := X
  subst hq hz
  exact go_st (fun t k => XS.ixor X.here hx rfl (hb hby hd) rfl k) r
theorem g_ishl (C : Cx p s m meth c Z own bytes ml rt mn) (X : St p l e R s m args below meth c n0 T h k n) {x y z : Int32} (hd : decode bytes pc = .ok (.ishl, 1)) (hq : pc + 1 = q) (hz : x <<< (y &&& 31) = z) (r : Goes p e below G (T.setTop (mkF m q L (.int z :: st)))) : Goes p e below G (T.setTop (mkF m pc L (.int y :: .int x :: st))) := by
  obtain ⟨hx, -, -, hby, -⟩ := C
  obtain ⟨_, _, _, X, -⟩ := X
  subst hq hz
  exact go_st (fun t k => XS.ishl X.here hx rfl (hb hby hd) rfl k) r
theorem g_ishr (C : Cx p s m meth c Z own bytes ml rt mn) (X : St p l e R s m args below meth c n0 T h k n) {x y z : Int32} (hd : decode bytes pc = .ok (.ishr, 1)) (hq : pc + 1 = q) (hz : x >>> (y &&& 31) = z) (r : Goes p e below G (T.setTop (mkF m q L (.int z :: st)))) : Goes p e below G (T.setTop (mkF m pc L (.int y :: .int x :: st))) := by
  obtain ⟨hx, -, -, hby, -⟩ := C
  obtain ⟨_, _, _, X, -⟩ := X
  subst hq hz
  exact go_st (fun t k => XS.ishr X.here hx rfl (hb hby hd) rfl k) r
theorem g_iushr (C : Cx p s m meth c Z own bytes ml rt mn) (X : St p l e R s m args below meth c n0 T h k n) {x y z : Int32} (hd : decode bytes pc = .ok (.iushr, 1)) (hq : pc + 1 = q) (hz : (x.toUInt32 >>> (y &&& 31).toUInt32).toInt32 = z) (r : Goes p e below G (T.setTop (mkF m q L (.int z :: st)))) : Goes p e below G (T.setTop (mkF m pc L (.int y :: .int x :: st))) := by
  obtain ⟨hx, -, -, hby, -⟩ := C
  obtain ⟨_, _, _, X, -⟩ := X
  subst hq hz
  exact go_st (fun t k => XS.iushr X.here hx rfl (hb hby hd) rfl k) r
theorem g_idiv (C : Cx p s m meth c Z own bytes ml rt mn) (X : St p l e R s m args below meth c n0 T h k n) {x y z : Int32} (hd : decode bytes pc = .ok (.idiv, 1)) (hq : pc + 1 = q) (hy : y ≠ 0) (hz : x / y = z) (r : Goes p e below G (T.setTop (mkF m q L (.int z :: st)))) : Goes p e below G (T.setTop (mkF m pc L (.int y :: .int x :: st))) := by
  obtain ⟨hx, -, -, hby, -⟩ := C
  obtain ⟨_, _, _, X, -⟩ := X
  subst hq hz
  exact go_st (fun t k => XS.idiv X.here hx rfl (hb hby hd) rfl hy k) r
theorem g_irem (C : Cx p s m meth c Z own bytes ml rt mn) (X : St p l e R s m args below meth c n0 T h k n) {x y z : Int32} (hd : decode bytes pc = .ok (.irem, 1)) (hq : pc + 1 = q) (hy : y ≠ 0) (hz : x % y = z) (r : Goes p e below G (T.setTop (mkF m q L (.int z :: st)))) : Goes p e below G (T.setTop (mkF m pc L (.int y :: .int x :: st))) := by
  obtain ⟨hx, -, -, hby, -⟩ := C
  obtain ⟨_, _, _, X, -⟩ := X
  subst hq hz
  exact go_st (fun t k => iremM X hx rfl (hb hby hd) rfl hy k) r
theorem g_ineg (C : Cx p s m meth c Z own bytes ml rt mn) (X : St p l e R s m args below meth c n0 T h k n) {x z : Int32} (hd : decode bytes pc = .ok (.ineg, 1)) (hq : pc + 1 = q) (hz : -x = z) (r : Goes p e below G (T.setTop (mkF m q L (.int z :: st)))) : Goes p e below G (T.setTop (mkF m pc L (.int x :: st))) := by
  obtain ⟨hx, -, -, hby, -⟩ := C
  obtain ⟨_, _, _, X, -⟩ := X
  subst hq hz
  exact go_st (fun t k => XS.ineg X.here hx rfl (hb hby hd) rfl k) r
theorem g_ladd (C : Cx p s m meth c Z own bytes ml rt mn) (X : St p l e R s m args below meth c n0 T h k n) {x y z : Int64} (hd : decode bytes pc = .ok (.ladd, 1)) (hq : pc + 1 = q) (hz : x + y = z) (r : Goes p e below G (T.setTop (mkF m q L (.long z :: st)))) : Goes p e below G (T.setTop (mkF m pc L (.long y :: .long x :: st))) := by
  obtain ⟨hx, -, -, hby, -⟩ := C
  obtain ⟨_, _, _, X, -⟩ := X
  subst hq hz
  exact go_st (fun t k => XS.ladd X.here hx rfl (hb hby hd) rfl k) r
theorem g_lsub (C : Cx p s m meth c Z own bytes ml rt mn) (X : St p l e R s m args below meth c n0 T h k n) {x y z : Int64} (hd : decode bytes pc = .ok (.lsub, 1)) (hq : pc + 1 = q) (hz : x - y = z) (r : Goes p e below G (T.setTop (mkF m q L (.long z :: st)))) : Goes p e below G (T.setTop (mkF m pc L (.long y :: .long x :: st))) := by
  obtain ⟨hx, -, -, hby, -⟩ := C
  obtain ⟨_, _, _, X, -⟩ := X
  subst hq hz
  exact go_st (fun t k => XS.lsub X.here hx rfl (hb hby hd) rfl k) r
theorem g_lmul (C : Cx p s m meth c Z own bytes ml rt mn) (X : St p l e R s m args below meth c n0 T h k n) {x y z : Int64} (hd : decode bytes pc = .ok (.lmul, 1)) (hq : pc + 1 = q) (hz : x * y = z) (r : Goes p e below G (T.setTop (mkF m q L (.long z :: st)))) : Goes p e below G (T.setTop (mkF m pc L (.long y :: .long x :: st))) := by
  obtain ⟨hx, -, -, hby, -⟩ := C
  obtain ⟨_, _, _, X, -⟩ := X
  subst hq hz
  exact go_st (fun t k => XS.lmul X.here hx rfl (hb hby hd) rfl k) r
theorem g_land (C : Cx p s m meth c Z own bytes ml rt mn) (X : St p l e R s m args below meth c n0 T h k n) {x y z : Int64} (hd : decode bytes pc = .ok (.land, 1)) (hq : pc + 1 = q) (hz : x &&& y = z) (r : Goes p e below G (T.setTop (mkF m q L (.long z :: st)))) : Goes p e below G (T.setTop (mkF m pc L (.long y :: .long x :: st))) := by
  obtain ⟨hx, -, -, hby, -⟩ := C
  obtain ⟨_, _, _, X, -⟩ := X
  subst hq hz
  exact go_st (fun t k => XS.land X.here hx rfl (hb hby hd) rfl k) r
theorem g_lor (C : Cx p s m meth c Z own bytes ml rt mn) (X : St p l e R s m args below meth c n0 T h k n) {x y z : Int64} (hd : decode bytes pc = .ok (.lor, 1)) (hq : pc + 1 = q) (hz : x ||| y = z) (r : Goes p e below G (T.setTop (mkF m q L (.long z :: st)))) : Goes p e below G (T.setTop (mkF m pc L (.long y :: .long x :: st))) := by
  obtain ⟨hx, -, -, hby, -⟩ := C
  obtain ⟨_, _, _, X, -⟩ := X
  subst hq hz
  exact go_st (fun t k => XS.lor X.here hx rfl (hb hby hd) rfl k) r
theorem g_lxor (C : Cx p s m meth c Z own bytes ml rt mn) (X : St p l e R s m args below meth c n0 T h k n) {x y z : Int64} (hd : decode bytes pc = .ok (.lxor, 1)) (hq : pc + 1 = q) (hz : x ^^^ y = z) (r : Goes p e below G (T.setTop (mkF m q L (.long z :: st)))) : Goes p e below G (T.setTop (mkF m pc L (.long y :: .long x :: st))) := by
  obtain ⟨hx, -, -, hby, -⟩ := C
  obtain ⟨_, _, _, X, -⟩ := X
  subst hq hz
  exact go_st (fun t k => XS.lxor X.here hx rfl (hb hby hd) rfl k) r
theorem g_lshl (C : Cx p s m meth c Z own bytes ml rt mn) (X : St p l e R s m args below meth c n0 T h k n) {x z : Int64} {y : Int32} (hd : decode bytes pc = .ok (.lshl, 1)) (hq : pc + 1 = q) (hz : x <<< (y &&& 0x3f).toInt64 = z) (r : Goes p e below G (T.setTop (mkF m q L (.long z :: st)))) : Goes p e below G (T.setTop (mkF m pc L (.int y :: .long x :: st))) := by
  obtain ⟨hx, -, -, hby, -⟩ := C
  obtain ⟨_, _, _, X, -⟩ := X
  subst hq hz
  exact go_st (fun t k => XS.lshl X.here hx rfl (hb hby hd) rfl k) r
theorem g_lshr (C : Cx p s m meth c Z own bytes ml rt mn) (X : St p l e R s m args below meth c n0 T h k n) {x z : Int64} {y : Int32} (hd : decode bytes pc = .ok (.lshr, 1)) (hq : pc + 1 = q) (hz : x >>> (y &&& 0x3f).toInt64 = z) (r : Goes p e below G (T.setTop (mkF m q L (.long z :: st)))) : Goes p e below G (T.setTop (mkF m pc L (.int y :: .long x :: st))) := by
  obtain ⟨hx, -, -, hby, -⟩ := C
  obtain ⟨_, _, _, X, -⟩ := X
  subst hq hz
  exact go_st (fun t k => XS.lshr X.here hx rfl (hb hby hd) rfl k) r
theorem g_lushr (C : Cx p s m meth c Z own bytes ml rt mn) (X : St p l e R s m args below meth c n0 T h k n) {x z : Int64} {y : Int32} (hd : decode bytes pc = .ok (.lushr, 1)) (hq : pc + 1 = q) (hz : (x.toUInt64 >>> (y &&& 0x3f).toInt64.toUInt64).toInt64 = z) (r : Goes p e below G (T.setTop (mkF m q L (.long z :: st)))) : Goes p e below G (T.setTop (mkF m pc L (.int y :: .long x :: st))) := by
  obtain ⟨hx, -, -, hby, -⟩ := C
  obtain ⟨_, _, _, X, -⟩ := X
  subst hq hz
  exact go_st (fun t k => XS.lushr X.here hx rfl (hb hby hd) rfl k) r
theorem g_ldiv (C : Cx p s m meth c Z own bytes ml rt mn) (X : St p l e R s m args below meth c n0 T h k n) {x y z : Int64} (hd : decode bytes pc = .ok (.ldiv, 1)) (hq : pc + 1 = q) (hy : y ≠ 0) (hz : x / y = z) (r : Goes p e below G (T.setTop (mkF m q L (.long z :: st)))) : Goes p e below G (T.setTop (mkF m pc L (.long y :: .long x :: st))) := by
  obtain ⟨hx, -, -, hby, -⟩ := C
  obtain ⟨_, _, _, X, -⟩ := X
  subst hq hz
  exact go_st (fun t k => XS.ldiv X.here hx rfl (hb hby hd) rfl hy k) r
theorem g_lrem (C : Cx p s m meth c Z own bytes ml rt mn) (X : St p l e R s m args below meth c n0 T h k n) {x y z : Int64} (hd : decode bytes pc = .ok (.lrem, 1)) (hq : pc + 1 = q) (hy : y ≠ 0) (hz : x % y = z) (r : Goes p e below G (T.setTop (mkF m q L (.long z :: st)))) : Goes p e below G (T.setTop (mkF m pc L (.long y :: .long x :: st))) := by
  obtain ⟨hx, -, -, hby, -⟩ := C
  obtain ⟨_, _, _, X, -⟩ := X
  subst hq hz
  have w := lrem_mod x y
  exact go_st (fun t k => XS.lrem X.here hx rfl (hb hby hd) rfl hy (by rw [w]; exact k)) r
theorem g_lneg (C : Cx p s m meth c Z own bytes ml rt mn) (X : St p l e R s m args below meth c n0 T h k n) {x z : Int64} (hd : decode bytes pc = .ok (.lneg, 1)) (hq : pc + 1 = q) (hz : -x = z) (r : Goes p e below G (T.setTop (mkF m q L (.long z :: st)))) : Goes p e below G (T.setTop (mkF m pc L (.long x :: st))) := by
  obtain ⟨hx, -, -, hby, -⟩ := C
  obtain ⟨_, _, _, X, -⟩ := X
  subst hq hz
  exact go_st (fun t k => XS.lneg X.here hx rfl (hb hby hd) rfl k) r
theorem g_i2l (C : Cx p s m meth c Z own bytes ml rt mn) (X : St p l e R s m args below meth c n0 T h k n) {x : Int32} {z : Int64} (hd : decode bytes pc = .ok (.i2l, 1)) (hq : pc + 1 = q) (hz : x.toInt64 = z) (r : Goes p e below G (T.setTop (mkF m q L (.long z :: st)))) : Goes p e below G (T.setTop (mkF m pc L (.int x :: st))) := by
  obtain ⟨hx, -, -, hby, -⟩ := C
  obtain ⟨_, _, _, X, -⟩ := X
  subst hq hz
  exact go_st (fun t k => XS.i2l X.here hx rfl (hb hby hd) rfl k) r
theorem g_l2i (C : Cx p s m meth c Z own bytes ml rt mn) (X : St p l e R s m args below meth c n0 T h k n) {x : Int64} {z : Int32} (hd : decode bytes pc = .ok (.l2i, 1)) (hq : pc + 1 = q) (hz : x.toInt32 = z) (r : Goes p e below G (T.setTop (mkF m q L (.int z :: st)))) : Goes p e below G (T.setTop (mkF m pc L (.long x :: st))) := by
  obtain ⟨hx, -, -, hby, -⟩ := C
  obtain ⟨_, _, _, X, -⟩ := X
  subst hq hz
  exact go_st (fun t k => XS.l2i X.here hx rfl (hb hby hd) rfl k) r
theorem g_i2b (C : Cx p s m meth c Z own bytes ml rt mn) (X : St p l e R s m args below meth c n0 T h k n) {x z : Int32} (hd : decode bytes pc = .ok (.i2b, 1)) (hq : pc + 1 = q) (hz : x.toInt8.toInt32 = z) (r : Goes p e below G (T.setTop (mkF m q L (.int z :: st)))) : Goes p e below G (T.setTop (mkF m pc L (.int x :: st))) := by
  obtain ⟨hx, -, -, hby, -⟩ := C
  obtain ⟨_, _, _, X, -⟩ := X
  subst hq hz
  exact go_st (fun t k => XS.i2b X.here hx rfl (hb hby hd) rfl k) r
theorem g_i2s (C : Cx p s m meth c Z own bytes ml rt mn) (X : St p l e R s m args below meth c n0 T h k n) {x z : Int32} (hd : decode bytes pc = .ok (.i2s, 1)) (hq : pc + 1 = q) (hz : x.toInt16.toInt32 = z) (r : Goes p e below G (T.setTop (mkF m q L (.int z :: st)))) : Goes p e below G (T.setTop (mkF m pc L (.int x :: st))) := by
  obtain ⟨hx, -, -, hby, -⟩ := C
  obtain ⟨_, _, _, X, -⟩ := X
  subst hq hz
  exact go_st (fun t k => XS.i2s X.here hx rfl (hb hby hd) rfl k) r
theorem g_i2c (C : Cx p s m meth c Z own bytes ml rt mn) (X : St p l e R s m args below meth c n0 T h k n) {x z : Int32} (hd : decode bytes pc = .ok (.i2c, 1)) (hq : pc + 1 = q) (hz : x.toUInt32.toUInt16.toUInt32.toInt32 = z) (r : Goes p e below G (T.setTop (mkF m q L (.int z :: st)))) : Goes p e below G (T.setTop (mkF m pc L (.int x :: st))) := by
  obtain ⟨hx, -, -, hby, -⟩ := C
  obtain ⟨_, _, _, X, -⟩ := X
  subst hq hz
  exact go_st (fun t k => XS.i2c X.here hx rfl (hb hby hd) rfl k) r
theorem g_lconst (C : Cx p s m meth c Z own bytes ml rt mn) (X : St p l e R s m args below meth c n0 T h k n) {i : Fin 2} {z : Int64} (hd : decode bytes pc = .ok (.lconst i, 1)) (hq : pc + 1 = q) (hz : (i.val.toInt64) = z) (r : Goes p e below G (T.setTop (mkF m q L (.long z :: st)))) : Goes p e below G (T.setTop (mkF m pc L (st))) := by
  obtain ⟨hx, -, -, hby, -⟩ := C
  obtain ⟨_, _, _, X, -⟩ := X
  subst hq hz
  exact go_st (fun t k => XS.lconst X.here hx rfl (hb hby hd) k) r
theorem own_lcW (x y : Int64) : (if x > y then (1 : Int32) else if x = y then 0 else -1) = lcmpW x y := rfl
theorem g_lcmp (C : Cx p s m meth c Z own bytes ml rt mn) (X : St p l e R s m args below meth c n0 T h k n) {x y : Int64} {z : Int32} (hd : decode bytes pc = .ok (.lcmp, 1)) (hq : pc + 1 = q) (hz : lcmpW x y = z) (r : Goes p e below G (T.setTop (mkF m q L (.int z :: st)))) : Goes p e below G (T.setTop (mkF m pc L (.long y :: .long x :: st))) := by
  obtain ⟨hx, -, -, hby, -⟩ := C
  obtain ⟨_, _, _, X, -⟩ := X
  subst hq hz
  exact go_st (fun t k => XS.lcmp X.here hx rfl (hb hby hd) rfl k) r
theorem g_dup (C : Cx p s m meth c Z own bytes ml rt mn) (X : St p l e R s m args below meth c n0 T h k n) {x : Value} (hd : decode bytes pc = .ok (.dup, 1)) (hq : pc + 1 = q) (hc : x.category = 1) (r : Goes p e below G (T.setTop (mkF m q L (x :: x :: st)))) : Goes p e below G (T.setTop (mkF m pc L (x :: st))) := by
  obtain ⟨hx, -, -, hby, -⟩ := C
  obtain ⟨_, _, _, X, -⟩ := X
  subst hq 
  exact go_st (fun t k => XS.dup X.here hx rfl (hb hby hd) rfl hc k) r
theorem g_pop (C : Cx p s m meth c Z own bytes ml rt mn) (X : St p l e R s m args below meth c n0 T h k n) {x : Value} (hd : decode bytes pc = .ok (.pop, 1)) (hq : pc + 1 = q) (hc : x.category = 1) (r : Goes p e below G (T.setTop (mkF m q L (st)))) : Goes p e below G (T.setTop (mkF m pc L (x :: st))) := by
  obtain ⟨hx, -, -, hby, -⟩ := C
  obtain ⟨_, _, _, X, -⟩ := X
  subst hq 
  exact go_st (fun t k => XS.pop X.here hx rfl (hb hby hd) rfl hc k) r
theorem g_dupX1 (C : Cx p s m meth c Z own bytes ml rt mn) (X : St p l e R s m args below meth c n0 T h k n) {x y : Value} (hd : decode bytes pc = .ok (.dup_x1, 1)) (hq : pc + 1 = q) (hc : x.category = 1) (hc' : y.category = 1) (r : Goes p e below G (T.setTop (mkF m q L (x :: y :: x :: st)))) : Goes p e below G (T.setTop (mkF m pc L (x :: y :: st))) := by
  obtain ⟨hx, -, -, hby, -⟩ := C
  obtain ⟨_, _, _, X, -⟩ := X
  subst hq 
  exact go_st (fun t k => XS.dupX1 X.here hx rfl (hb hby hd) rfl hc hc' k) r
theorem g_dup2 (C : Cx p s m meth c Z own bytes ml rt mn) (X : St p l e R s m args below meth c n0 T h k n) {x y : Value} (hd : decode bytes pc = .ok (.dup2, 1)) (hq : pc + 1 = q) (hc : x.category = 1) (hc' : y.category = 1) (r : Goes p e below G (T.setTop (mkF m q L (x :: y :: x :: y :: st)))) : Goes p e below G (T.setTop (mkF m pc L (x :: y :: st))) := by
  obtain ⟨hx, -, -, hby, -⟩ := C
  obtain ⟨_, _, _, X, -⟩ := X
  subst hq 
  exact go_st (fun t k => Jvm.Free.XT.dup2 X.here hx rfl (hb hby hd) rfl hc hc' k) r
theorem g_istoreN (C : Cx p s m meth c Z own bytes ml rt mn) (X : St p l e R s m args below meth c n0 T h k n) {j : Fin 4} {x : Int32} {L' : Array Slot} (hd : decode bytes pc = .ok (.istore_n j, 1)) (hq : pc + 1 = q) (hl : storeLocals L j.val (.int x) = some L') (r : Goes p e below G (T.setTop (mkF m q L' (st)))) : Goes p e below G (T.setTop (mkF m pc L (.int x :: st))) := by
  obtain ⟨hx, -, -, hby, -⟩ := C
  obtain ⟨_, _, _, X, -⟩ := X
  subst hq 
  exact go_st (fun t k => XS.istoreN X.here hx rfl (hb hby hd) rfl hl k) r
theorem g_istore (C : Cx p s m meth c Z own bytes ml rt mn) (X : St p l e R s m args below meth c n0 T h k n) {j : Nat} {x : Int32} {L' : Array Slot} (hd : decode bytes pc = .ok (.istore j, 2)) (hq : pc + 2 = q) (hl : storeLocals L j (.int x) = some L') (r : Goes p e below G (T.setTop (mkF m q L' (st)))) : Goes p e below G (T.setTop (mkF m pc L (.int x :: st))) := by
  obtain ⟨hx, -, -, hby, -⟩ := C
  obtain ⟨_, _, _, X, -⟩ := X
  subst hq 
  exact go_st (fun t k => XS.istore X.here hx rfl (hb hby hd) rfl hl k) r
theorem g_lstoreN (C : Cx p s m meth c Z own bytes ml rt mn) (X : St p l e R s m args below meth c n0 T h k n) {j : Fin 4} {x : Int64} {L' : Array Slot} (hd : decode bytes pc = .ok (.lstore_n j, 1)) (hq : pc + 1 = q) (hl : storeLocals L j.val (.long x) = some L') (r : Goes p e below G (T.setTop (mkF m q L' (st)))) : Goes p e below G (T.setTop (mkF m pc L (.long x :: st))) := by
  obtain ⟨hx, -, -, hby, -⟩ := C
  obtain ⟨_, _, _, X, -⟩ := X
  subst hq 
  exact go_st (fun t k => XS.lstoreN X.here hx rfl (hb hby hd) rfl hl k) r
theorem g_lstore (C : Cx p s m meth c Z own bytes ml rt mn) (X : St p l e R s m args below meth c n0 T h k n) {j : Nat} {x : Int64} {L' : Array Slot} (hd : decode bytes pc = .ok (.lstore j, 2)) (hq : pc + 2 = q) (hl : storeLocals L j (.long x) = some L') (r : Goes p e below G (T.setTop (mkF m q L' (st)))) : Goes p e below G (T.setTop (mkF m pc L (.long x :: st))) := by
  obtain ⟨hx, -, -, hby, -⟩ := C
  obtain ⟨_, _, _, X, -⟩ := X
  subst hq 
  exact go_st (fun t k => XS.lstore X.here hx rfl (hb hby hd) rfl hl k) r
theorem g_astoreN (C : Cx p s m meth c Z own bytes ml rt mn) (X : St p l e R s m args below meth c n0 T h k n) {j : Fin 4} {x : Value} {L' : Array Slot} (hd : decode bytes pc = .ok (.astore_n j, 1)) (hq : pc + 1 = q) (hv : x.isRef = true) (hl : storeLocals L j.val x = some L') (r : Goes p e below G (T.setTop (mkF m q L' (st)))) : Goes p e below G (T.setTop (mkF m pc L (x :: st))) := by
  obtain ⟨hx, -, -, hby, -⟩ := C
  obtain ⟨_, _, _, X, -⟩ := X
  subst hq 
  exact go_st (fun t k => XS.astoreN X.here hx rfl (hb hby hd) rfl hv hl k) r
theorem g_astore (C : Cx p s m meth c Z own bytes ml rt mn) (X : St p l e R s m args below meth c n0 T h k n) {j : Nat} {x : Value} {L' : Array Slot} (hd : decode bytes pc = .ok (.astore j, 2)) (hq : pc + 2 = q) (hv : x.isRef = true) (hl : storeLocals L j x = some L') (r : Goes p e below G (T.setTop (mkF m q L' (st)))) : Goes p e below G (T.setTop (mkF m pc L (x :: st))) := by
  obtain ⟨hx, -, -, hby, -⟩ := C
  obtain ⟨_, _, _, X, -⟩ := X
  subst hq 
  exact go_st (fun t k => XS.astore X.here hx rfl (hb hby hd) rfl hv hl k) r
theorem g_iinc (C : Cx p s m meth c Z own bytes ml rt mn) (X : St p l e R s m args below meth c n0 T h k n) {j : Nat} {i : Int} {x z : Int32} {L' : Array Slot} (hd : decode bytes pc = .ok (.iinc j i, 3)) (hq : pc + 3 = q) (hl : L[j]? = some (.val (.int x))) (hz : x + Int32.ofInt i = z) (hl' : storeLocals L j (.int z) = some L') (r : Goes p e below G (T.setTop (mkF m q L' (st)))) : Goes p e below G (T.setTop (mkF m pc L (st))) := by
  obtain ⟨hx, -, -, hby, -⟩ := C
  obtain ⟨_, _, _, X, -⟩ := X
  subst hq hz
  exact go_st (fun t k => XS.iinc X.here hx rfl (hb hby hd) hl hl' k) r
theorem g_goto (C : Cx p s m meth c Z own bytes ml rt mn) (X : St p l e R s m args below meth c n0 T h k n)  {o : Int} (hd : decode bytes pc = .ok (.goto o, 3)) (ho : 0 ≤ (pc : Int) + o) (hq : ((pc : Int) + o).toNat = q)  (r : Goes p e below G (T.setTop (mkF m q L st))) : Goes p e below G (T.setTop (mkF m pc L (st))) := by
  obtain ⟨hx, -, -, hby, -⟩ := C
  obtain ⟨_, _, _, X, -⟩ := X
  exact go_st (fun t k => XS.goto X.here hx rfl rfl (hb hby hd) ho hq k) r
theorem g_ifY (C : Cx p s m meth c Z own bytes ml rt mn) (X : St p l e R s m args below meth c n0 T h k n) {cd : ClassFile.Cond} {x : Int32} {o : Int} (hd : decode bytes pc = .ok (.ifCond cd o, 3)) (ho : 0 ≤ (pc : Int) + o) (hq : ((pc : Int) + o).toNat = q) (hc : if_icmp.holds cd x 0 = true) (r : Goes p e below G (T.setTop (mkF m q L st))) : Goes p e below G (T.setTop (mkF m pc L (.int x :: st))) := by
  obtain ⟨hx, -, -, hby, -⟩ := C
  obtain ⟨_, _, _, X, -⟩ := X
  exact go_st (fun t k => XS.ifYes X.here hx rfl rfl (hb hby hd) rfl ((if0 _ _).trans hc) ho hq k) r
theorem g_ifN (C : Cx p s m meth c Z own bytes ml rt mn) (X : St p l e R s m args below meth c n0 T h k n) {cd : ClassFile.Cond} {x : Int32} {o : Int} (hd : decode bytes pc = .ok (.ifCond cd o, 3)) (hq : pc + 3 = q) (hc : if_icmp.holds cd x 0 = false) (r : Goes p e below G (T.setTop (mkF m q L st))) : Goes p e below G (T.setTop (mkF m pc L (.int x :: st))) := by
  obtain ⟨hx, -, -, hby, -⟩ := C
  obtain ⟨_, _, _, X, -⟩ := X
  subst hq
  exact go_st (fun t k => XS.ifNo X.here hx rfl (hb hby hd) rfl ((if0 _ _).trans hc) k) r
theorem g_icY (C : Cx p s m meth c Z own bytes ml rt mn) (X : St p l e R s m args below meth c n0 T h k n) {cd : ClassFile.Cond} {x y : Int32} {o : Int} (hd : decode bytes pc = .ok (.if_icmp cd o, 3)) (ho : 0 ≤ (pc : Int) + o) (hq : ((pc : Int) + o).toNat = q) (hc : if_icmp.holds cd x y = true) (r : Goes p e below G (T.setTop (mkF m q L st))) : Goes p e below G (T.setTop (mkF m pc L (.int y :: .int x :: st))) := by
  obtain ⟨hx, -, -, hby, -⟩ := C
  obtain ⟨_, _, _, X, -⟩ := X
  exact go_st (fun t k => XS.icmpYes X.here hx rfl rfl (hb hby hd) rfl hc ho hq k) r
theorem g_icN (C : Cx p s m meth c Z own bytes ml rt mn) (X : St p l e R s m args below meth c n0 T h k n) {cd : ClassFile.Cond} {x y : Int32} {o : Int} (hd : decode bytes pc = .ok (.if_icmp cd o, 3)) (hq : pc + 3 = q) (hc : if_icmp.holds cd x y = false) (r : Goes p e below G (T.setTop (mkF m q L st))) : Goes p e below G (T.setTop (mkF m pc L (.int y :: .int x :: st))) := by
  obtain ⟨hx, -, -, hby, -⟩ := C
  obtain ⟨_, _, _, X, -⟩ := X
  subst hq
  exact go_st (fun t k => XS.icmpNo X.here hx rfl (hb hby hd) rfl hc k) r
theorem g_nulY (C : Cx p s m meth c Z own bytes ml rt mn) (X : St p l e R s m args below meth c n0 T h k n)  {o : Int} (hd : decode bytes pc = .ok (.ifnull o, 3)) (ho : 0 ≤ (pc : Int) + o) (hq : ((pc : Int) + o).toNat = q)  (r : Goes p e below G (T.setTop (mkF m q L st))) : Goes p e below G (T.setTop (mkF m pc L (.null :: st))) := by
  obtain ⟨hx, -, -, hby, -⟩ := C
  obtain ⟨_, _, _, X, -⟩ := X
  exact go_st (fun t k => XS.ifnullYes X.here hx rfl rfl (hb hby hd) rfl ho hq k) r
theorem g_nulN (C : Cx p s m meth c Z own bytes ml rt mn) (X : St p l e R s m args below meth c n0 T h k n) {b : Addr} {o : Int} (hd : decode bytes pc = .ok (.ifnull o, 3)) (hq : pc + 3 = q)  (r : Goes p e below G (T.setTop (mkF m q L st))) : Goes p e below G (T.setTop (mkF m pc L (.ref b :: st))) := by
  obtain ⟨hx, -, -, hby, -⟩ := C
  obtain ⟨_, _, _, X, -⟩ := X
  subst hq
  exact go_st (fun t k => XS.ifnullNo X.here hx rfl (hb hby hd) rfl k) r
theorem g_nonY (C : Cx p s m meth c Z own bytes ml rt mn) (X : St p l e R s m args below meth c n0 T h k n) {b : Addr} {o : Int} (hd : decode bytes pc = .ok (.ifnonnull o, 3)) (ho : 0 ≤ (pc : Int) + o) (hq : ((pc : Int) + o).toNat = q)  (r : Goes p e below G (T.setTop (mkF m q L st))) : Goes p e below G (T.setTop (mkF m pc L (.ref b :: st))) := by
  obtain ⟨hx, -, -, hby, -⟩ := C
  obtain ⟨_, _, _, X, -⟩ := X
  exact go_st (fun t k => XS.ifnonnullYes X.here hx rfl rfl (hb hby hd) rfl ho hq k) r
theorem g_nonN (C : Cx p s m meth c Z own bytes ml rt mn) (X : St p l e R s m args below meth c n0 T h k n)  {o : Int} (hd : decode bytes pc = .ok (.ifnonnull o, 3)) (hq : pc + 3 = q)  (r : Goes p e below G (T.setTop (mkF m q L st))) : Goes p e below G (T.setTop (mkF m pc L (.null :: st))) := by
  obtain ⟨hx, -, -, hby, -⟩ := C
  obtain ⟨_, _, _, X, -⟩ := X
  subst hq
  exact go_st (fun t k => XS.ifnonnullNo X.here hx rfl (hb hby hd) rfl k) r
theorem g_boolF (C : Cx p s m meth c Z own bytes ml rt mn) (X : St p l e R s m args below meth c n0 T h k n) {cd : ClassFile.Cond} {x : Int32} (hd : decode bytes pc = .ok (.ifCond cd 7, 3)) (hd1 : decode bytes (pc + 3) = .ok (.iconst 1, 1)) (hd2 : decode bytes (pc + 4) = .ok (.goto 4, 3)) (hd3 : decode bytes (pc + 7) = .ok (.iconst 0, 1)) (hq : pc + 8 = q) (r : ∀ b : Int32, (if_icmp.holds cd x 0 = true → b = 0) → (if_icmp.holds cd x 0 = false → b = 1) → Goes p e below G (T.setTop (mkF m q L (.int b :: st)))) : Goes p e below G (T.setTop (mkF m pc L (.int x :: st))) := by
  subst hq
  cases hc : if_icmp.holds cd x 0
  · refine g_ifN C X hd (q := pc + 3) rfl hc ?_
    refine g_iconst C X hd1 (q := pc + 4) rfl (z := 1) rfl ?_
    refine g_goto C X hd2 (by omega) (q := pc + 8) (by omega) ?_
    exact r 1 (fun z => by rw [hc] at z; cases z) (fun _ => rfl)
  · refine g_ifY C X hd (by omega) (q := pc + 7) (by omega) hc ?_
    refine g_iconst C X hd3 (q := pc + 8) rfl (z := 0) rfl ?_
    exact r 0 (fun _ => rfl) (fun z => by rw [hc] at z; cases z)
theorem g_selF (C : Cx p s m meth c Z own bytes ml rt mn) (X : St p l e R s m args below meth c n0 T h k n) {cd : ClassFile.Cond} {x v1 v2 : Int32} {j1 j2 : Fin 4} (hd : decode bytes pc = .ok (.ifCond cd 7, 3)) (hd1 : decode bytes (pc + 3) = .ok (.iload_n j1, 1)) (hd2 : decode bytes (pc + 4) = .ok (.goto 4, 3)) (hd3 : decode bytes (pc + 7) = .ok (.iload_n j2, 1)) (hq : pc + 8 = q) (l1 : L[j1.val]? = some (.val (.int v1))) (l2 : L[j2.val]? = some (.val (.int v2))) (r : ∀ b : Int32, (if_icmp.holds cd x 0 = true → b = v2) → (if_icmp.holds cd x 0 = false → b = v1) → Goes p e below G (T.setTop (mkF m q L (.int b :: st)))) : Goes p e below G (T.setTop (mkF m pc L (.int x :: st))) := by
  subst hq
  cases hc : if_icmp.holds cd x 0
  · refine g_ifN C X hd (q := pc + 3) rfl hc ?_
    refine g_iloadN C X hd1 (q := pc + 4) rfl l1 ?_
    refine g_goto C X hd2 (by omega) (q := pc + 8) (by omega) ?_
    exact r v1 (fun z => by rw [hc] at z; cases z) (fun _ => rfl)
  · refine g_ifY C X hd (by omega) (q := pc + 7) (by omega) hc ?_
    refine g_iloadN C X hd3 (q := pc + 8) rfl l2 ?_
    exact r v2 (fun _ => rfl) (fun z => by rw [hc] at z; cases z)
theorem g_boolC (C : Cx p s m meth c Z own bytes ml rt mn) (X : St p l e R s m args below meth c n0 T h k n) {cd : ClassFile.Cond} {x y : Int32} (hd : decode bytes pc = .ok (.if_icmp cd 7, 3)) (hd1 : decode bytes (pc + 3) = .ok (.iconst 1, 1)) (hd2 : decode bytes (pc + 4) = .ok (.goto 4, 3)) (hd3 : decode bytes (pc + 7) = .ok (.iconst 0, 1)) (hq : pc + 8 = q) (r : ∀ b : Int32, (if_icmp.holds cd x y = true → b = 0) → (if_icmp.holds cd x y = false → b = 1) → Goes p e below G (T.setTop (mkF m q L (.int b :: st)))) : Goes p e below G (T.setTop (mkF m pc L (.int y :: .int x :: st))) := by
  subst hq
  cases hc : if_icmp.holds cd x y
  · refine g_icN C X hd (q := pc + 3) rfl hc ?_
    refine g_iconst C X hd1 (q := pc + 4) rfl (z := 1) rfl ?_
    refine g_goto C X hd2 (by omega) (q := pc + 8) (by omega) ?_
    exact r 1 (fun z => by rw [hc] at z; cases z) (fun _ => rfl)
  · refine g_icY C X hd (by omega) (q := pc + 7) (by omega) hc ?_
    refine g_iconst C X hd3 (q := pc + 8) rfl (z := 0) rfl ?_
    exact r 0 (fun _ => rfl) (fun z => by rw [hc] at z; cases z)
theorem g_acmp (C : Cx p s m meth c Z own bytes ml rt mn) (X : St p l e R s m args below meth c n0 T h k n) {cd : ACond} {x y : Value} {o : Int} {same : Bool} (hd : decode bytes pc = .ok (.if_acmp cd o, 3)) (h1 : x.isRef = true) (h2 : y.isRef = true) (hs : decide (x = y) = same) (ho : 0 ≤ (pc : Int) + o) (hq : q = if acV cd same = true then ((pc : Int) + o).toNat else pc + 3) (r : Goes p e below G (T.setTop (mkF m q L st))) : Goes p e below G (T.setTop (mkF m pc L (y :: x :: st))) := by
  obtain ⟨hx, -, -, hby, -⟩ := C
  obtain ⟨_, _, _, X, -⟩ := X
  exact go_st (fun t k => Jvm.RoadKit.acmp (g := mkF m pc L (y :: x :: st)) X hx rfl h1 h2 rfl (hb hby hd) rfl hs ho hq k) r
theorem g_lsw (C : Cx p s m meth c Z own bytes ml rt mn) (X : St p l e R s m args below meth c n0 T h k n) {d o : Int} {ps : Array (Int × Int)} {i : Int32} {len : Nat} (hd : decode bytes pc = .ok (.lookupswitch d ps, len)) (hinc : (ps.toList.zip (ps.toList.drop 1)).all (fun (a, next) => a.1 < next.1) = true) (hoff : lookupswitch.offset ps.toList d i.toInt = o) (ho : 0 ≤ (pc : Int) + o) (hq : ((pc : Int) + o).toNat = q) (r : Goes p e below G (T.setTop (mkF m q L st))) : Goes p e below G (T.setTop (mkF m pc L (.int i :: st))) := by
  obtain ⟨hx, -, -, hby, -⟩ := C
  obtain ⟨_, _, _, X, -⟩ := X
  subst hq
  refine go_st (fun t k => ?_) r
  have hd' := hb hby hd
  show Steps p.tables e below (T.setTop { method := m, pc := pc, locals := L, stack := .int i :: st, locked := none }) _
  jvm_step X.here [X.here.top, hx, hd', lookupswitch.wp_chain, hoff, ho]
  refine ⟨?_, k⟩
  intro a b a1 b1 hm
  simpa using List.all_eq_true.mp hinc ((a, b), a1, b1) (by simpa using hm)
theorem g_tswI (C : Cx p s m meth c Z own bytes ml rt mn) (X : St p l e R s m args below meth c n0 T h k n) {d lo hi o : Int} {offs : Array Int} {i : Int32} {len : Nat} (hd : decode bytes pc = .ok (.tableswitch d lo hi offs, len)) (hin : ¬ (i.toInt < lo ∨ i.toInt > hi)) (hoff : offs[(i.toInt - lo).toNat]? = some o) (ho : 0 ≤ (pc : Int) + o) (hq : ((pc : Int) + o).toNat = q) (r : Goes p e below G (T.setTop (mkF m q L st))) : Goes p e below G (T.setTop (mkF m pc L (.int i :: st))) := by
  obtain ⟨hx, -, -, hby, -⟩ := C
  obtain ⟨_, _, _, X, -⟩ := X
  exact go_st (fun t k => XS.tswIn X.here hx rfl rfl (hb hby hd) rfl hin hoff ho hq k) r
theorem g_tswO (C : Cx p s m meth c Z own bytes ml rt mn) (X : St p l e R s m args below meth c n0 T h k n) {d lo hi : Int} {offs : Array Int} {i : Int32} {len : Nat} (hd : decode bytes pc = .ok (.tableswitch d lo hi offs, len)) (hin : i.toInt < lo ∨ i.toInt > hi) (ho : 0 ≤ (pc : Int) + d) (hq : ((pc : Int) + d).toNat = q) (r : Goes p e below G (T.setTop (mkF m q L st))) : Goes p e below G (T.setTop (mkF m pc L (.int i :: st))) := by
  obtain ⟨hx, -, -, hby, -⟩ := C
  obtain ⟨_, _, _, X, -⟩ := X
  exact go_st (fun t k => XS.tswOut X.here hx rfl rfl (hb hby hd) rfl hin ho hq k) r
theorem g_ldcI (C : Cx p s m meth c Z own bytes ml rt mn) (X : St p l e R s m args below meth c n0 T h k n) {i : Nat} {v : Int32} (w : (Cond.constant own i v).before a0 Z = true) (hd : decode bytes pc = .ok (.ldc i, 2)) (hq : pc + 2 = q) (r : Goes p e below G (T.setTop (mkF m q L (.int v :: st)))) : Goes p e below G (T.setTop (mkF m pc L st)) := by
  obtain ⟨hx, hZ, hown, hby, -⟩ := C
  obtain ⟨_, _, _, X, -⟩ := X
  subst hq
  exact go_st (fun t k => X.ldcInt hx hown (mvT hZ w) (g := mkF m pc L st) rfl (hb hby hd) t k) r
theorem g_ldcJ (C : Cx p s m meth c Z own bytes ml rt mn) (X : St p l e R s m args below meth c n0 T h k n) {i : Nat} {v : Int64} (w : (Cond.constantLong own i v).before a0 Z = true) (hd : decode bytes pc = .ok (.ldc2_w i, 3)) (hq : pc + 3 = q) (r : Goes p e below G (T.setTop (mkF m q L (.long v :: st)))) : Goes p e below G (T.setTop (mkF m pc L st)) := by
  obtain ⟨hx, hZ, hown, hby, -⟩ := C
  obtain ⟨_, _, _, X, -⟩ := X
  subst hq
  exact go_st (fun t k => X.ldc2Long hx hown (mvT hZ w) (g := mkF m pc L st) rfl (hb hby hd) t k) r
theorem own_end (C : Cx p s m meth c Z own bytes ml rt mn) (X : St p l e R s m args below meth c n0 T h k n) {Q : Option Value → Heap → Prop} {K N : Nat} {S : State} {v : Option Value} (hv : rt = none → v = none) (hk : k ≤ K) (hn : n ≤ N) (hQ : Q v h)
    (f : ∀ locs cells slots fs, Stand p l e R s m args below meth c T locs cells slots → (∀ (f : JFrame) (acts : List Action), f.method = m → f.locked = none → f.entered = [] → (doReturn e (T.setTop f) acts v).1 = T.setFrames fs) → Steps p.tables e below S (T.setFrames fs)) : Goes p e below (FinN Q s n0 K N) S := by
  obtain ⟨hx, -, -, hby, -, hret, hlk, -⟩ := C
  obtain ⟨locs, cells, slots, X, hF, rfl, h1, h2⟩ := X
  obtain ⟨fs, hr, hrun, hended, hW, hsame⟩ := X.leave (v := v) (fun h => hv (hret.symm.trans h)) hlk
  exact ⟨_, _, f _ _ _ fs X hr, hrun, hended, _, _, rfl, ⟨hF, hQ⟩, ⟨_, rfl⟩, hW, hsame.mono (Nat.le_trans h1 hk) (Nat.le_trans h2 hn)⟩
theorem g_retI (C : Cx p s m meth c Z own bytes ml (some .int) mn) (X : St p l e R s m args below meth c n0 T h k n) {Q : Option Value → Heap → Prop} {K N : Nat} {z : Int32} (hd : decode bytes pc = .ok (.ireturn, 1)) (hk : k ≤ K) (hn : n ≤ N) (hQ : Q (some (.int z)) h) : Goes p e below (FinN Q s n0 K N) (T.setTop (mkF m pc L (.int z :: st))) := by
  refine own_end C X (by simp) hk hn hQ fun locs cells slots fs X hr => ?_
  obtain ⟨hx, -, -, hby, -, hret, hlk, -⟩ := C
  exact retOut X hx hret rfl (Or.inl ⟨rfl, Or.inl rfl, _, rfl⟩) (hb hby hd) hr
theorem g_retN {t : FieldType} (C : Cx p s m meth c Z own bytes ml (some t) mn) (X : St p l e R s m args below meth c n0 T h k n) {Q : Option Value → Heap → Prop} {K N : Nat} {z z' : Int32} (ht : t = .boolean ∨ t = .byte ∨ t = .char ∨ t = .short) (hz : nar t z = z') (hd : decode bytes pc = .ok (.ireturn, 1)) (hk : k ≤ K) (hn : n ≤ N) (hQ : Q (some (.int z')) h) : Goes p e below (FinN Q s n0 K N) (T.setTop (mkF m pc L (.int z :: st))) := by
  subst hz
  refine own_end C X (by simp) hk hn hQ fun locs cells slots fs X hr => ?_
  obtain ⟨hx, -, -, hby, -, hret, hlk, -⟩ := C
  exact retN X hx hret ht (hb hby hd) hr
theorem g_retA {t : FieldType} (C : Cx p s m meth c Z own bytes ml (some t) mn) (X : St p l e R s m args below meth c n0 T h k n) {Q : Option Value → Heap → Prop} {K N : Nat} {v : Value} (ht : t.isReference = true) (hv : v.isRef = true) (hd : decode bytes pc = .ok (.areturn, 1)) (hk : k ≤ K) (hn : n ≤ N) (hQ : Q (some v) h) : Goes p e below (FinN Q s n0 K N) (T.setTop (mkF m pc L (v :: st))) := by
  refine own_end C X (by simp) hk hn hQ fun locs cells slots fs X hr => ?_
  obtain ⟨hx, -, -, hby, -, hret, hlk, -⟩ := C
  have hn' : narrow t v = v := by rcases ref_cases hv with rfl | ⟨b, rfl⟩ <;> cases t <;> first | rfl | (cases ht)
  exact retOut X hx hret hn' (Or.inr (Or.inr (Or.inr (Or.inr ⟨rfl, ht, hv⟩)))) (hb hby hd) hr
theorem g_retJ (C : Cx p s m meth c Z own bytes ml (some .long) mn) (X : St p l e R s m args below meth c n0 T h k n) {Q : Option Value → Heap → Prop} {K N : Nat} {z : Int64} (hd : decode bytes pc = .ok (.lreturn, 1)) (hk : k ≤ K) (hn : n ≤ N) (hQ : Q (some (.long z)) h) : Goes p e below (FinN Q s n0 K N) (T.setTop (mkF m pc L (.long z :: st))) := by
  refine own_end C X (by simp) hk hn hQ fun locs cells slots fs X hr => ?_
  obtain ⟨hx, -, -, hby, -, hret, hlk, -⟩ := C
  exact retOut X hx hret rfl (Or.inr (Or.inl ⟨rfl, rfl, _, rfl⟩)) (hb hby hd) hr
theorem g_retV (C : Cx p s m meth c Z own bytes ml none mn) (X : St p l e R s m args below meth c n0 T h k n) {Q : Option Value → Heap → Prop} {K N : Nat} (hd : decode bytes pc = .ok (.return_, 1)) (hk : k ≤ K) (hn : n ≤ N) (hQ : Q none h) : Goes p e below (FinN Q s n0 K N) (T.setTop (mkF m pc L [])) := by
  refine own_end C X (fun _ => rfl) hk hn hQ fun locs cells slots fs X hr => ?_
  obtain ⟨hx, -, -, hby, -, hret, hlk, -⟩ := C
  exact X.returnOut hx hret (hb hby hd) hr
theorem g_dloadN (C : Cx p s m meth c Z own bytes ml rt mn) (X : St p l e R s m args below meth c n0 T h k n) {j : Fin 4} {v : UInt64} (hd : decode bytes pc = .ok (.dload_n j, 1)) (hq : pc + 1 = q) (hl : L[j.val]? = some (.val (.double v))) (r : Goes p e below G (T.setTop (mkF m q L (.double v :: st)))) : Goes p e below G (T.setTop (mkF m pc L (st))) := by
  obtain ⟨hx, -, -, hby, -⟩ := C
  obtain ⟨_, _, _, X, -⟩ := X
  subst hq 
  exact go_st (fun t k => XS.dloadN X.here hx rfl (hb hby hd) hl k) r
theorem g_dload (C : Cx p s m meth c Z own bytes ml rt mn) (X : St p l e R s m args below meth c n0 T h k n) {j : Nat} {v : UInt64} (hd : decode bytes pc = .ok (.dload j, 2)) (hq : pc + 2 = q) (hl : L[j]? = some (.val (.double v))) (r : Goes p e below G (T.setTop (mkF m q L (.double v :: st)))) : Goes p e below G (T.setTop (mkF m pc L (st))) := by
  obtain ⟨hx, -, -, hby, -⟩ := C
  obtain ⟨_, _, _, X, -⟩ := X
  subst hq 
  exact go_st (fun t k => XS.dload X.here hx rfl (hb hby hd) hl k) r
theorem g_dstoreN (C : Cx p s m meth c Z own bytes ml rt mn) (X : St p l e R s m args below meth c n0 T h k n) {j : Fin 4} {x : UInt64} {L' : Array Slot} (hd : decode bytes pc = .ok (.dstore_n j, 1)) (hq : pc + 1 = q) (hl : storeLocals L j.val (.double x) = some L') (r : Goes p e below G (T.setTop (mkF m q L' (st)))) : Goes p e below G (T.setTop (mkF m pc L (.double x :: st))) := by
  obtain ⟨hx, -, -, hby, -⟩ := C
  obtain ⟨_, _, _, X, -⟩ := X
  subst hq 
  exact go_st (fun t k => XS.dstoreN X.here hx rfl (hb hby hd) rfl hl k) r
theorem g_dstore (C : Cx p s m meth c Z own bytes ml rt mn) (X : St p l e R s m args below meth c n0 T h k n) {j : Nat} {x : UInt64} {L' : Array Slot} (hd : decode bytes pc = .ok (.dstore j, 2)) (hq : pc + 2 = q) (hl : storeLocals L j (.double x) = some L') (r : Goes p e below G (T.setTop (mkF m q L' (st)))) : Goes p e below G (T.setTop (mkF m pc L (.double x :: st))) := by
  obtain ⟨hx, -, -, hby, -⟩ := C
  obtain ⟨_, _, _, X, -⟩ := X
  subst hq 
  exact go_st (fun t k => XS.dstore X.here hx rfl (hb hby hd) rfl hl k) r
theorem g_i2d (C : Cx p s m meth c Z own bytes ml rt mn) (X : St p l e R s m args below meth c n0 T h k n) {x : Int32} {z : UInt64} (hd : decode bytes pc = .ok (.i2d, 1)) (hq : pc + 1 = q) (hz : FP.i2d x = z) (r : Goes p e below G (T.setTop (mkF m q L (.double z :: st)))) : Goes p e below G (T.setTop (mkF m pc L (.int x :: st))) := by
  obtain ⟨hx, -, -, hby, -⟩ := C
  obtain ⟨_, _, _, X, -⟩ := X
  subst hq 
  exact go_st (fun t k => XS.i2dS X.here hx rfl (hb hby hd) rfl hz k) r
theorem g_dcmp (C : Cx p s m meth c Z own bytes ml rt mn) (X : St p l e R s m args below meth c n0 T h k n) {o : CmpOp} {x y : UInt64} {z : Int32} (hd : decode bytes pc = .ok (.dcmp o, 1)) (hq : pc + 1 = q) (hz : cmpValue (FP.dcmp x y) o = z) (r : Goes p e below G (T.setTop (mkF m q L (.int z :: st)))) : Goes p e below G (T.setTop (mkF m pc L (.double y :: .double x :: st))) := by
  obtain ⟨hx, -, -, hby, -⟩ := C
  obtain ⟨_, _, _, X, -⟩ := X
  subst hq 
  exact go_st (fun t k => XS.dcmpS X.here hx rfl (hb hby hd) rfl hz k) r
theorem g_pop2 (C : Cx p s m meth c Z own bytes ml rt mn) (X : St p l e R s m args below meth c n0 T h k n) {x : Value} (hd : decode bytes pc = .ok (.pop2, 1)) (hq : pc + 1 = q) (hc : x.category = 2) (r : Goes p e below G (T.setTop (mkF m q L st))) : Goes p e below G (T.setTop (mkF m pc L (x :: st))) := by
  obtain ⟨hx, -, -, hby, -⟩ := C
  obtain ⟨_, _, _, X, -⟩ := X
  subst hq
  refine go_st (fun t k => ?_) r
  have hd' := hb hby hd
  show Steps p.tables e below (T.setTop { method := m, pc := pc, locals := L, stack := x :: st, locked := none }) _
  jvm_step X.here [X.here.top, hx, hd', hc]
  exact k
theorem g_dconst0 (C : Cx p s m meth c Z own bytes ml rt mn) (X : St p l e R s m args below meth c n0 T h k n) {z : UInt64} (hd : decode bytes pc = .ok (.dconst 0, 1)) (hq : pc + 1 = q) (hz : FP.dconst0 = z) (r : Goes p e below G (T.setTop (mkF m q L (.double z :: st)))) : Goes p e below G (T.setTop (mkF m pc L (st))) := by
  obtain ⟨hx, -, -, hby, -⟩ := C
  obtain ⟨_, _, _, X, -⟩ := X
  subst hq 
  exact go_st (fun t k => XS.dconst0 X.here hx rfl (hb hby hd) hz k) r
theorem g_dconst1 (C : Cx p s m meth c Z own bytes ml rt mn) (X : St p l e R s m args below meth c n0 T h k n) {z : UInt64} (hd : decode bytes pc = .ok (.dconst 1, 1)) (hq : pc + 1 = q) (hz : FP.dconst1 = z) (r : Goes p e below G (T.setTop (mkF m q L (.double z :: st)))) : Goes p e below G (T.setTop (mkF m pc L (st))) := by
  obtain ⟨hx, -, -, hby, -⟩ := C
  obtain ⟨_, _, _, X, -⟩ := X
  subst hq 
  exact go_st (fun t k => XS.dconst1 X.here hx rfl (hb hby hd) hz k) r
theorem g_retD (C : Cx p s m meth c Z own bytes ml (some .double) mn) (X : St p l e R s m args below meth c n0 T h k n) {Q : Option Value → Heap → Prop} {K N : Nat} {z : UInt64} (hd : decode bytes pc = .ok (.dreturn, 1)) (hk : k ≤ K) (hn : n ≤ N) (hQ : Q (some (.double z)) h) : Goes p e below (FinN Q s n0 K N) (T.setTop (mkF m pc L (.double z :: st))) := by
  refine own_end C X (by simp) hk hn hQ fun locs cells slots fs X hr => ?_
  obtain ⟨hx, -, -, hby, -, hret, hlk, -⟩ := C
  exact retOut X hx hret rfl (Or.inr (Or.inr (Or.inl ⟨rfl, rfl, _, rfl⟩))) (hb hby hd) hr
theorem g_getS (C : Cx p s m meth c Z own bytes ml rt mn) (X : St p l e R s m args below meth c n0 T h k n) {R0 O f d host : String} {i : Nat} {v : Value} (w : (Cond.fieldLink own i R0 f d).before a0 Z = true ∨ (Cond.fieldLinkNest own i R0 f d host).before a0 Z = true) (via : Via Z R0 O f d) (F : Sta Z h O f d v) (hd : decode bytes pc = .ok (.getstatic i, 3)) (hq : pc + 3 = q) (r : ∀ T', St p l e R s m args below meth c n0 T' h k n → Goes p e below G (T'.setTop (mkF m q L (v :: st)))) : Goes p e below G (T.setTop (mkF m pc L st)) := by
  obtain ⟨hx, hZ, hown, hby, -⟩ := C
  obtain ⟨_, _, _, X, hF, eT, h1, h2⟩ := X
  subst hq
  obtain ⟨T', X', e', st'⟩ := getS2 X hx hZ hown w via eT F (g := mkF m pc L st) rfl (hb hby hd)
  exact go_st st' (r T' ⟨_, _, _, X', hF, e', h1, h2⟩)
theorem g_getF (C : Cx p s m meth c Z own bytes ml rt mn) (X : St p l e R s m args below meth c n0 T h k n) {R0 O f d host : String} {i : Nat} {a : Addr} {v : Value} (w : (Cond.fieldLink own i R0 f d).before a0 Z = true ∨ (Cond.fieldLinkNest own i R0 f d host).before a0 Z = true) (via : Via Z R0 O f d) (F : Fld Z h a O f d v) (hd : decode bytes pc = .ok (.getfield i, 3)) (hq : pc + 3 = q) (r : ∀ T', St p l e R s m args below meth c n0 T' h k n → Goes p e below G (T'.setTop (mkF m q L (v :: st)))) : Goes p e below G (T.setTop (mkF m pc L (.ref a :: st))) := by
  obtain ⟨hx, hZ, hown, hby, -⟩ := C
  obtain ⟨_, _, _, X, hF, eT, h1, h2⟩ := X
  subst hq
  obtain ⟨T', X', e', st'⟩ := getF X hx hZ hown w via eT F (g := mkF m pc L (.ref a :: st)) rfl rfl (hb hby hd)
  exact go_st st' (r T' ⟨_, _, _, X', hF, e', h1, h2⟩)
theorem g_putF (C : Cx p s m meth c Z own bytes ml rt mn) (X : St p l e R s m args below meth c n0 T h k n) {R0 O f d host K : String} {i kk : Nat} {ty : FieldType} {a : Addr} {v old : Value} (w : (Cond.fieldLink own i R0 f d).before a0 Z = true ∨ (Cond.fieldLinkNest own i R0 f d host).before a0 Z = true) (via : Via Z R0 O f d) (F : Fld Z h a O f d old) (E : Exa Z h a K) (Ly : (Cond.lays K O f d).before a0 Z = true ∨ ((Cond.laysFinal K O f d).before a0 Z = true ∧ own = O ∧ mn = "<init>")) (wi : (Cond.instantiable K kk).before a0 Z = true)
    (hty : parseFieldDescriptor d = some ty) (hnn : narrow ty v = v) (hff : fits ty v = true) (hd : decode bytes pc = .ok (.putfield i, 3)) (hq : pc + 3 = q) (ha : n0 ≤ a) (r : ∀ T' h', St p l e R s m args below meth c n0 T' h' k n → Wr h h' a (Jvm.RoadKit.slotOf Z O f d) v → Goes p e below G (T'.setTop (mkF m q L st))) : Goes p e below G (T.setTop (mkF m pc L (v :: .ref a :: st))) := by
  obtain ⟨hx, hZ, hown, hby, -, -, -, hnm⟩ := C
  obtain ⟨_, _, _, X, hF, eT, h1, h2⟩ := X
  subst hq
  obtain ⟨T', h', X', e', W', st'⟩ := putF X hx hZ hown w via eT F E (Ly.imp id fun z => ⟨z.1, z.2.1, hnm.trans z.2.2⟩) wi hty hnn hff (g := mkF m pc L (v :: .ref a :: st)) rfl rfl (hb hby hd)
  exact go_st st' (r T' h' ⟨_, _, _, X', Fr.snoc X' hF ha, e', h1, h2⟩ W')
theorem g_putFN (C : Cx p s m meth c Z own bytes ml rt mn) (X : St p l e R s m args below meth c n0 T h k n) {R0 O f d K : String} {i kk : Nat} {ty : FieldType} {a : Addr} {v v' old : Value} (w : (Cond.fieldLink own i R0 f d).before a0 Z = true) (via : Via Z R0 O f d) (F : Fld Z h a O f d old) (E : Exa Z h a K) (Ly : (Cond.lays K O f d).before a0 Z = true ∨ ((Cond.laysFinal K O f d).before a0 Z = true ∧ own = O ∧ mn = "<init>")) (wi : (Cond.instantiable K kk).before a0 Z = true)
    (hty : parseFieldDescriptor d = some ty) (hnn : narrow ty v = v') (hff : fits ty v' = true) (hd : decode bytes pc = .ok (.putfield i, 3)) (hq : pc + 3 = q) (ha : n0 ≤ a) (r : ∀ T' h', St p l e R s m args below meth c n0 T' h' k n → Wr h h' a (Jvm.RoadKit.slotOf Z O f d) v' → Goes p e below G (T'.setTop (mkF m q L st))) : Goes p e below G (T.setTop (mkF m pc L (v :: .ref a :: st))) := by
  obtain ⟨hx, hZ, hown, hby, -, -, -, hnm⟩ := C
  obtain ⟨_, _, _, X, hF, eT, h1, h2⟩ := X
  subst hq
  obtain ⟨T', h', X', e', W', st'⟩ := putFN X hx hZ hown w via eT F E (Ly.imp id fun z => ⟨z.1, z.2.1, hnm.trans z.2.2⟩) wi hty hnn hff (g := mkF m pc L (v :: .ref a :: st)) rfl rfl (hb hby hd)
  exact go_st st' (r T' h' ⟨_, _, _, X', Fr.snoc X' hF ha, e', h1, h2⟩ W')
theorem g_new (C : Cx p s m meth c Z own bytes ml rt mn) (X : St p l e R s m args below meth c n0 T h k n) {K : String} {i z k' n' : Nat} (w : (Cond.classLink own i K).before a0 Z = true) (wi : (Cond.instantiable K z).before a0 Z = true) (wz : (Cond.initialized K).before a0 Z = true) (hd : decode bytes pc = .ok (.new i, 3)) (hq : pc + 3 = q) (hk : k + 1 = k') (hn : n + z = n') (hkR : k' ≤ R.cells) (hnR : n' ≤ R.slots)
    (r : ∀ T' h' a, a = h.size → St p l e R s m args below meth c n0 T' h' k' n' → Ext h h' → Exa Z h' a K → (∀ {O nm d : String} {ty : FieldType}, Laid Z a0 K O nm d → parseFieldDescriptor d = some ty → Fld Z h' a O nm d (defaultValue ty)) → Goes p e below G (T'.setTop (mkF m q L (.ref a :: st)))) : Goes p e below G (T.setTop (mkF m pc L st)) := by
  obtain ⟨hx, hZ, hown, hby, -⟩ := C
  obtain ⟨_, _, _, X, hF, eT, h1, h2⟩ := X
  subst hq hk hn
  obtain ⟨T', h', X', e', E', A', D', -, st'⟩ := newO X hx hZ hown w wi wz eT (g := mkF m pc L st) rfl (hb hby hd) (Nat.le_trans (Nat.add_le_add_right h1 1) hkR) (Nat.le_trans (Nat.add_le_add_right h2 z) hnR)
  exact go_st st' (r T' h' _ rfl ⟨_, _, _, X', hF, e', Nat.add_le_add_right h1 1, Nat.add_le_add_right h2 z⟩ E' A' D')
theorem g_newP (C : Cx p s m meth c Z own bytes ml rt mn) (X : St p l e R s m args below meth c n0 T h k n) {aty : ArrayType} {ty : FieldType} {z : Int32} {cap k' n' : Nat} (w : (Cond.arrayClass ty).before a0 Z = true) (hty : newarray.typeOf aty = ty) (hd : decode bytes pc = .ok (.newarray aty, 2)) (hq : pc + 2 = q) (hz : ¬ z < 0) (hcap : z.toNatClampNeg ≤ cap) (hcb : cap * 8 ≤ 536870912) (hk : k + 1 = k') (hn : n + cap = n') (hkR : k' ≤ R.cells) (hnR : n' ≤ R.slots)
    (r : ∀ T' h' cA a, a = h.size → St p l e R s m args below meth c n0 T' h' k' n' → Ext h h' → Arv Z h' a cA ty z [] (defaultValue ty) → Goes p e below G (T'.setTop (mkF m q L (.ref a :: st)))) : Goes p e below G (T.setTop (mkF m pc L (.int z :: st))) := by
  obtain ⟨hx, hZ, hown, hby, -⟩ := C
  obtain ⟨_, _, _, X, hF, eT, h1, h2⟩ := X
  subst hq hk hn hty
  obtain ⟨T', h', cA, X', e', E', A', st'⟩ := newP X hx hZ w eT (g := mkF m pc L (.int z :: st)) rfl (hb hby hd) rfl hz (cap := cap) hcap hcb (Nat.le_trans (Nat.add_le_add_right h1 1) hkR) (Nat.le_trans (Nat.add_le_add_right h2 cap) hnR)
  exact go_st st' (r T' h' cA _ rfl ⟨_, _, _, X', hF, e', Nat.add_le_add_right h1 1, Nat.add_le_add_right h2 cap⟩ E' (Arv.new A' hz))
theorem g_initO (C : Cx p s m meth c Z own bytes ml rt mn) (X : St p l e R s m args below meth c n0 T h k n) {i : Nat} {a : Addr} (w1 : (Cond.methodLink own i Lib.objectInit).before a0 Z = true) (w2 : (Cond.instanceMethod Lib.objectInit).before a0 Z = true) (w3 : (Cond.code Lib.objectInit ⟨#[0xb1]⟩ 1 none).before a0 Z = true) (hsz : L.size = ml) (hd : decode bytes pc = .ok (.invokespecial i, 3)) (hq : pc + 3 = q) (hf : 1 ≤ R.frames) (hW : (st.map fun v => v.category).sum + 12 ≤ R.locals)
    (r : ∀ T', St p l e R s m args below meth c n0 T' h k n → Goes p e below G (T'.setTop (mkF m q L st))) : Goes p e below G (T.setTop (mkF m pc L (.ref a :: st))) := by
  obtain ⟨hx, hZ, hown, hby, hml, -⟩ := C
  obtain ⟨_, _, _, X, hF, eT, h1, h2⟩ := X
  subst hq
  obtain ⟨T', X', e', st'⟩ := initO X hx hZ hown w1 w2 w3 eT (g := mkF m pc L (.ref a :: st)) rfl (hsz.trans hml.symm) rfl (hb hby hd) hf (W := (st.map fun v => v.category).sum) (by show 2 * 0 + _ ≤ _; omega) hW
  exact go_st st' (r T' ⟨_, _, _, X', hF, e', h1, h2⟩)
theorem g_iastore (C : Cx p s m meth c Z own bytes ml rt mn) (X : St p l e R s m args below meth c n0 T h k n) {a : Addr} {cA : ClassId} {z j : Int32} {vs vs' : List Value} {dv : Value} {i : Nat} {v : Int32} (V : Arv Z h a cA .int z vs dv) (hj : ¬ j < 0 ∧ j < z) (hi : j.toNatClampNeg = i) (hlt : i < vs.length) (hvs : vs.set i (.int v) = vs') (ha : n0 ≤ a) (hd : decode bytes pc = .ok (.iastore, 1)) (hq : pc + 1 = q)
    (r : ∀ T' h', St p l e R s m args below meth c n0 T' h' k n → Wr h h' a i (.int v) → Arv Z h' a cA .int z vs' dv → Goes p e below G (T'.setTop (mkF m q L st))) : Goes p e below G (T.setTop (mkF m pc L (.int v :: .int j :: .ref a :: st))) := by
  obtain ⟨hx, hZ, hown, hby, -⟩ := C
  obtain ⟨_, _, _, X, hF, eT, h1, h2⟩ := X
  subst hq hi hvs
  obtain ⟨cl, A, q1, Sz, q3, H, Gf⟩ := V
  obtain ⟨T', h', X', e', W', st'⟩ := stI X hx hZ eT A (j := j) (inb_of Sz hj) (g := mkF m pc L (.int v :: .int j :: .ref a :: st)) rfl rfl (hb hby hd)
  exact go_st st' (r T' h' ⟨_, _, _, X', Fr.snoc X' hF ha, e', h1, h2⟩ W' (Arv.set A q1 Sz q3 H Gf rfl W' _ rfl hlt))
theorem g_castore (C : Cx p s m meth c Z own bytes ml rt mn) (X : St p l e R s m args below meth c n0 T h k n) {a : Addr} {cA : ClassId} {z j : Int32} {vs vs' : List Value} {dv : Value} {i : Nat} {v : Int32} (V : Arv Z h a cA .char z vs dv) (hj : ¬ j < 0 ∧ j < z) (hi : j.toNatClampNeg = i) (hlt : i < vs.length) (hvs : vs.set i (.int (nar .char v)) = vs') (ha : n0 ≤ a) (hd : decode bytes pc = .ok (.castore, 1)) (hq : pc + 1 = q)
    (r : ∀ T' h', St p l e R s m args below meth c n0 T' h' k n → Wr h h' a i (.int (nar .char v)) → Arv Z h' a cA .char z vs' dv → Goes p e below G (T'.setTop (mkF m q L st))) : Goes p e below G (T.setTop (mkF m pc L (.int v :: .int j :: .ref a :: st))) := by
  obtain ⟨hx, hZ, hown, hby, -⟩ := C
  obtain ⟨_, _, _, X, hF, eT, h1, h2⟩ := X
  subst hq hi hvs
  obtain ⟨cl, A, q1, Sz, q3, H, Gf⟩ := V
  obtain ⟨T', h', X', e', W', st'⟩ := stC X hx hZ eT A (j := j) (inb_of Sz hj) (g := mkF m pc L (.int v :: .int j :: .ref a :: st)) rfl rfl (hb hby hd)
  exact go_st st' (r T' h' ⟨_, _, _, X', Fr.snoc X' hF ha, e', h1, h2⟩ W' (Arv.set A q1 Sz q3 H Gf (fits_nar_char _) W' _ rfl hlt))
theorem g_bastore (C : Cx p s m meth c Z own bytes ml rt mn) (X : St p l e R s m args below meth c n0 T h k n) {a : Addr} {cA : ClassId} {z j : Int32} {vs vs' : List Value} {dv : Value} {i : Nat} {v : Int32} (V : Arv Z h a cA .byte z vs dv) (hj : ¬ j < 0 ∧ j < z) (hi : j.toNatClampNeg = i) (hlt : i < vs.length) (hvs : vs.set i (.int (nar .byte v)) = vs') (ha : n0 ≤ a) (hd : decode bytes pc = .ok (.bastore, 1)) (hq : pc + 1 = q)
    (r : ∀ T' h', St p l e R s m args below meth c n0 T' h' k n → Wr h h' a i (.int (nar .byte v)) → Arv Z h' a cA .byte z vs' dv → Goes p e below G (T'.setTop (mkF m q L st))) : Goes p e below G (T.setTop (mkF m pc L (.int v :: .int j :: .ref a :: st))) := by
  obtain ⟨hx, hZ, hown, hby, -⟩ := C
  obtain ⟨_, _, _, X, hF, eT, h1, h2⟩ := X
  subst hq hi hvs
  obtain ⟨cl, A, q1, Sz, q3, H, Gf⟩ := V
  obtain ⟨T', h', X', e', W', st'⟩ := stB X hx hZ eT A (j := j) (inb_of Sz hj) (g := mkF m pc L (.int v :: .int j :: .ref a :: st)) rfl rfl (hb hby hd)
  exact go_st st' (r T' h' ⟨_, _, _, X', Fr.snoc X' hF ha, e', h1, h2⟩ W' (Arv.set A q1 Sz q3 H Gf (fits_nar_byte _) W' _ rfl hlt))
theorem g_zastore (C : Cx p s m meth c Z own bytes ml rt mn) (X : St p l e R s m args below meth c n0 T h k n) {a : Addr} {cA : ClassId} {z j : Int32} {vs vs' : List Value} {dv : Value} {i : Nat} {v : Int32} (V : Arv Z h a cA .boolean z vs dv) (hj : ¬ j < 0 ∧ j < z) (hi : j.toNatClampNeg = i) (hlt : i < vs.length) (hvs : vs.set i (.int (nar .boolean v)) = vs') (ha : n0 ≤ a) (hd : decode bytes pc = .ok (.bastore, 1)) (hq : pc + 1 = q)
    (r : ∀ T' h', St p l e R s m args below meth c n0 T' h' k n → Wr h h' a i (.int (nar .boolean v)) → Arv Z h' a cA .boolean z vs' dv → Goes p e below G (T'.setTop (mkF m q L st))) : Goes p e below G (T.setTop (mkF m pc L (.int v :: .int j :: .ref a :: st))) := by
  obtain ⟨hx, hZ, hown, hby, -⟩ := C
  obtain ⟨_, _, _, X, hF, eT, h1, h2⟩ := X
  subst hq hi hvs
  obtain ⟨cl, A, q1, Sz, q3, H, Gf⟩ := V
  obtain ⟨T', h', X', e', W', st'⟩ := stZ X hx hZ eT A (j := j) (inb_of Sz hj) (g := mkF m pc L (.int v :: .int j :: .ref a :: st)) rfl rfl (hb hby hd)
  exact go_st st' (r T' h' ⟨_, _, _, X', Fr.snoc X' hF ha, e', h1, h2⟩ W' (Arv.set A q1 Sz q3 H Gf (fits_nar_bool _) W' _ rfl hlt))
theorem g_lastore (C : Cx p s m meth c Z own bytes ml rt mn) (X : St p l e R s m args below meth c n0 T h k n) {a : Addr} {cA : ClassId} {z j : Int32} {vs vs' : List Value} {dv : Value} {i : Nat} {v : Int64} (V : Arv Z h a cA .long z vs dv) (hj : ¬ j < 0 ∧ j < z) (hi : j.toNatClampNeg = i) (hlt : i < vs.length) (hvs : vs.set i (.long v) = vs') (ha : n0 ≤ a) (hd : decode bytes pc = .ok (.lastore, 1)) (hq : pc + 1 = q)
    (r : ∀ T' h', St p l e R s m args below meth c n0 T' h' k n → Wr h h' a i (.long v) → Arv Z h' a cA .long z vs' dv → Goes p e below G (T'.setTop (mkF m q L st))) : Goes p e below G (T.setTop (mkF m pc L (.long v :: .int j :: .ref a :: st))) := by
  obtain ⟨hx, hZ, hown, hby, -⟩ := C
  obtain ⟨_, _, _, X, hF, eT, h1, h2⟩ := X
  subst hq hi hvs
  obtain ⟨cl, A, q1, Sz, q3, H, Gf⟩ := V
  obtain ⟨T', h', X', e', W', st'⟩ := stJ X hx hZ eT A (j := j) (inb_of Sz hj) (g := mkF m pc L (.long v :: .int j :: .ref a :: st)) rfl rfl (hb hby hd)
  exact go_st st' (r T' h' ⟨_, _, _, X', Fr.snoc X' hF ha, e', h1, h2⟩ W' (Arv.set A q1 Sz q3 H Gf rfl W' _ rfl hlt))
theorem g_dastore (C : Cx p s m meth c Z own bytes ml rt mn) (X : St p l e R s m args below meth c n0 T h k n) {a : Addr} {cA : ClassId} {z j : Int32} {vs vs' : List Value} {dv : Value} {i : Nat} {v : UInt64} (V : Arv Z h a cA .double z vs dv) (hj : ¬ j < 0 ∧ j < z) (hi : j.toNatClampNeg = i) (hlt : i < vs.length) (hvs : vs.set i (.double v) = vs') (ha : n0 ≤ a) (hd : decode bytes pc = .ok (.dastore, 1)) (hq : pc + 1 = q)
    (r : ∀ T' h', St p l e R s m args below meth c n0 T' h' k n → Wr h h' a i (.double v) → Arv Z h' a cA .double z vs' dv → Goes p e below G (T'.setTop (mkF m q L st))) : Goes p e below G (T.setTop (mkF m pc L (.double v :: .int j :: .ref a :: st))) := by
  obtain ⟨hx, hZ, hown, hby, -⟩ := C
  obtain ⟨_, _, _, X, hF, eT, h1, h2⟩ := X
  subst hq hi hvs
  obtain ⟨cl, A, q1, Sz, q3, H, Gf⟩ := V
  obtain ⟨T', h', X', e', W', st'⟩ := stD X hx hZ eT A (j := j) (inb_of Sz hj) (g := mkF m pc L (.double v :: .int j :: .ref a :: st)) rfl rfl (hb hby hd)
  exact go_st st' (r T' h' ⟨_, _, _, X', Fr.snoc X' hF ha, e', h1, h2⟩ W' (Arv.set A q1 Sz q3 H Gf rfl W' _ rfl hlt))
theorem g_aastore (C : Cx p s m meth c Z own bytes ml rt mn) (X : St p l e R s m args below meth c n0 T h k n) {a : Addr} {cA : ClassId} {z j : Int32} {vs vs' : List Value} {dv v : Value} {ty : FieldType} {i : Nat} (V : Arv Z h a cA ty z vs dv) (hty : ty.isReference = true) (F : Sto Z h a v) (hfv : fits ty v = true) (hj : ¬ j < 0 ∧ j < z) (hi : j.toNatClampNeg = i) (hlt : i < vs.length) (hvs : vs.set i v = vs') (ha : n0 ≤ a) (hd : decode bytes pc = .ok (.aastore, 1)) (hq : pc + 1 = q)
    (r : ∀ T' h', St p l e R s m args below meth c n0 T' h' k n → Wr h h' a i v → Arv Z h' a cA ty z vs' dv → Goes p e below G (T'.setTop (mkF m q L st))) : Goes p e below G (T.setTop (mkF m pc L (v :: .int j :: .ref a :: st))) := by
  obtain ⟨hx, hZ, hown, hby, -⟩ := C
  obtain ⟨_, _, _, X, hF, eT, h1, h2⟩ := X
  subst hq hi hvs
  obtain ⟨cl, A, q1, Sz, q3, H, Gf⟩ := V
  obtain ⟨T', h', X', e', W', st'⟩ := stR X hx hZ eT A (j := j) (inb_of Sz hj) hty F (g := mkF m pc L (v :: .int j :: .ref a :: st)) rfl rfl (hb hby hd)
  exact go_st st' (r T' h' ⟨_, _, _, X', Fr.snoc X' hF ha, e', h1, h2⟩ W' (Arv.set A q1 Sz q3 H Gf hfv W' _ rfl hlt))
theorem g_iaload (C : Cx p s m meth c Z own bytes ml rt mn) (X : St p l e R s m args below meth c n0 T h k n) {a : Addr} {cA : ClassId} {z j : Int32} {vs : List Value} {dv w : Value}  (V : Arv Z h a cA .int z vs dv) (hj : ¬ j < 0 ∧ j < z) (hv : vs.getD j.toNatClampNeg dv = w) (hd : decode bytes pc = .ok (.iaload, 1)) (hq : pc + 1 = q) (r : Goes p e below G (T.setTop (mkF m q L (w :: st)))) : Goes p e below G (T.setTop (mkF m pc L (.int j :: .ref a :: st))) := by
  obtain ⟨hx, hZ, hown, hby, -⟩ := C
  obtain ⟨_, _, _, X, hF, eT, h1, h2⟩ := X
  subst hq
  obtain ⟨cl, A, q1, Sz, q3, H, Gf⟩ := V
  exact go_st (fun t k => X.iaload hx (j := j) (v := w) (by rw [eT]; exact A.1) (State.isArrayOf_alike hZ.alike A.2.1) A.2.2 (inb_of Sz hj) (H.at (inb_of Sz hj) hv) (g := mkF m pc L (.int j :: .ref a :: st)) rfl rfl (hb hby hd) t k) r
theorem g_caload (C : Cx p s m meth c Z own bytes ml rt mn) (X : St p l e R s m args below meth c n0 T h k n) {a : Addr} {cA : ClassId} {z j : Int32} {vs : List Value} {dv w : Value}  (V : Arv Z h a cA .char z vs dv) (hj : ¬ j < 0 ∧ j < z) (hv : vs.getD j.toNatClampNeg dv = w) (hd : decode bytes pc = .ok (.caload, 1)) (hq : pc + 1 = q) (r : Goes p e below G (T.setTop (mkF m q L (w :: st)))) : Goes p e below G (T.setTop (mkF m pc L (.int j :: .ref a :: st))) := by
  obtain ⟨hx, hZ, hown, hby, -⟩ := C
  obtain ⟨_, _, _, X, hF, eT, h1, h2⟩ := X
  subst hq
  obtain ⟨cl, A, q1, Sz, q3, H, Gf⟩ := V
  exact go_st (fun t k => X.caload hx (j := j) (v := w) (by rw [eT]; exact A.1) (State.isArrayOf_alike hZ.alike A.2.1) A.2.2 (inb_of Sz hj) (H.at (inb_of Sz hj) hv) (g := mkF m pc L (.int j :: .ref a :: st)) rfl rfl (hb hby hd) t k) r
theorem g_baload (C : Cx p s m meth c Z own bytes ml rt mn) (X : St p l e R s m args below meth c n0 T h k n) {a : Addr} {cA : ClassId} {z j : Int32} {vs : List Value} {dv w : Value}  (V : Arv Z h a cA .byte z vs dv) (hj : ¬ j < 0 ∧ j < z) (hv : vs.getD j.toNatClampNeg dv = w) (hd : decode bytes pc = .ok (.baload, 1)) (hq : pc + 1 = q) (r : Goes p e below G (T.setTop (mkF m q L (w :: st)))) : Goes p e below G (T.setTop (mkF m pc L (.int j :: .ref a :: st))) := by
  obtain ⟨hx, hZ, hown, hby, -⟩ := C
  obtain ⟨_, _, _, X, hF, eT, h1, h2⟩ := X
  subst hq
  obtain ⟨cl, A, q1, Sz, q3, H, Gf⟩ := V
  exact go_st (fun t k => X.baloadBytes hx (j := j) (v := w) (by rw [eT]; exact A.1) (State.isArrayOf_alike hZ.alike A.2.1) A.2.2 (inb_of Sz hj) (H.at (inb_of Sz hj) hv) (g := mkF m pc L (.int j :: .ref a :: st)) rfl rfl (hb hby hd) t k) r
theorem g_zaload (C : Cx p s m meth c Z own bytes ml rt mn) (X : St p l e R s m args below meth c n0 T h k n) {a : Addr} {cA : ClassId} {z j : Int32} {vs : List Value} {dv w : Value}  (V : Arv Z h a cA .boolean z vs dv) (hj : ¬ j < 0 ∧ j < z) (hv : vs.getD j.toNatClampNeg dv = w) (hd : decode bytes pc = .ok (.baload, 1)) (hq : pc + 1 = q) (r : Goes p e below G (T.setTop (mkF m q L (w :: st)))) : Goes p e below G (T.setTop (mkF m pc L (.int j :: .ref a :: st))) := by
  obtain ⟨hx, hZ, hown, hby, -⟩ := C
  obtain ⟨_, _, _, X, hF, eT, h1, h2⟩ := X
  subst hq
  obtain ⟨cl, A, q1, Sz, q3, H, Gf⟩ := V
  exact go_st (fun t k => X.baloadBooleans hx (j := j) (v := w) (by rw [eT]; exact A.1) (State.isArrayOf_alike hZ.alike A.2.1) A.2.2 (inb_of Sz hj) (H.at (inb_of Sz hj) hv) (g := mkF m pc L (.int j :: .ref a :: st)) rfl rfl (hb hby hd) t k) r
theorem g_laload (C : Cx p s m meth c Z own bytes ml rt mn) (X : St p l e R s m args below meth c n0 T h k n) {a : Addr} {cA : ClassId} {z j : Int32} {vs : List Value} {dv w : Value}  (V : Arv Z h a cA .long z vs dv) (hj : ¬ j < 0 ∧ j < z) (hv : vs.getD j.toNatClampNeg dv = w) (hd : decode bytes pc = .ok (.laload, 1)) (hq : pc + 1 = q) (r : Goes p e below G (T.setTop (mkF m q L (w :: st)))) : Goes p e below G (T.setTop (mkF m pc L (.int j :: .ref a :: st))) := by
  obtain ⟨hx, hZ, hown, hby, -⟩ := C
  obtain ⟨_, _, _, X, hF, eT, h1, h2⟩ := X
  subst hq
  obtain ⟨cl, A, q1, Sz, q3, H, Gf⟩ := V
  exact go_st (fun t k => X.laload hx (j := j) (v := w) (by rw [eT]; exact A.1) (State.isArrayOf_alike hZ.alike A.2.1) A.2.2 (inb_of Sz hj) (H.at (inb_of Sz hj) hv) (g := mkF m pc L (.int j :: .ref a :: st)) rfl rfl (hb hby hd) t k) r
theorem g_daload (C : Cx p s m meth c Z own bytes ml rt mn) (X : St p l e R s m args below meth c n0 T h k n) {a : Addr} {cA : ClassId} {z j : Int32} {vs : List Value} {dv w : Value}  (V : Arv Z h a cA .double z vs dv) (hj : ¬ j < 0 ∧ j < z) (hv : vs.getD j.toNatClampNeg dv = w) (hd : decode bytes pc = .ok (.daload, 1)) (hq : pc + 1 = q) (r : Goes p e below G (T.setTop (mkF m q L (w :: st)))) : Goes p e below G (T.setTop (mkF m pc L (.int j :: .ref a :: st))) := by
  obtain ⟨hx, hZ, hown, hby, -⟩ := C
  obtain ⟨_, _, _, X, hF, eT, h1, h2⟩ := X
  subst hq
  obtain ⟨cl, A, q1, Sz, q3, H, Gf⟩ := V
  exact go_st (fun t k => X.daload hx (j := j) (v := w) (by rw [eT]; exact A.1) (State.isArrayOf_alike hZ.alike A.2.1) A.2.2 (inb_of Sz hj) (H.at (inb_of Sz hj) hv) (g := mkF m pc L (.int j :: .ref a :: st)) rfl rfl (hb hby hd) t k) r
theorem g_aaload (C : Cx p s m meth c Z own bytes ml rt mn) (X : St p l e R s m args below meth c n0 T h k n) {a : Addr} {cA : ClassId} {z j : Int32} {vs : List Value} {dv w : Value} {ty : FieldType} (hty : ty.isReference = true) (V : Arv Z h a cA ty z vs dv) (hj : ¬ j < 0 ∧ j < z) (hv : vs.getD j.toNatClampNeg dv = w) (hd : decode bytes pc = .ok (.aaload, 1)) (hq : pc + 1 = q) (r : Goes p e below G (T.setTop (mkF m q L (w :: st)))) : Goes p e below G (T.setTop (mkF m pc L (.int j :: .ref a :: st))) := by
  obtain ⟨hx, hZ, hown, hby, -⟩ := C
  obtain ⟨_, _, _, X, hF, eT, h1, h2⟩ := X
  subst hq
  obtain ⟨cl, A, q1, Sz, q3, H, Gf⟩ := V
  exact go_st (fun t k => X.aaload hx (j := j) (v := w) (by rw [eT]; exact A.1) (State.isArrayOf_alike hZ.alike A.2.1) hty A.2.2 (inb_of Sz hj) (H.at (inb_of Sz hj) hv) (g := mkF m pc L (.int j :: .ref a :: st)) rfl rfl (hb hby hd) t k) r
theorem g_alen (C : Cx p s m meth c Z own bytes ml rt mn) (X : St p l e R s m args below meth c n0 T h k n) {a : Addr} {cA : ClassId} {z : Int32} {vs : List Value} {dv : Value} {ty : FieldType} (V : Arv Z h a cA ty z vs dv) (hd : decode bytes pc = .ok (.arraylength, 1)) (hq : pc + 1 = q) (r : Goes p e below G (T.setTop (mkF m q L (.int z :: st)))) : Goes p e below G (T.setTop (mkF m pc L (.ref a :: st))) := by
  obtain ⟨hx, hZ, hown, hby, -⟩ := C
  obtain ⟨_, _, _, X, hF, eT, h1, h2⟩ := X
  subst hq
  obtain ⟨cl, A, q1, Sz, q3, H, Gf⟩ := V
  exact go_st (fun t k => X.arraylength hx (by rw [eT]; exact A.1) (State.isArrayOf_alike hZ.alike A.2.1) (g := mkF m pc L (.ref a :: st)) rfl rfl (hb hby hd) t (by rw [len_of Sz q3]; exact k)) r
theorem g_newR (C : Cx p s m meth c Z own bytes ml rt mn) (X : St p l e R s m args below meth c n0 T h k n) {K : String} {i cap k' n' : Nat} {z : Int32} (w1 : (Cond.classLink own i K).before a0 Z = true) (w2 : (Cond.arrayOver (.object K)).before a0 Z = true) (hd : decode bytes pc = .ok (.anewarray i, 3)) (hq : pc + 3 = q) (hz : ¬ z < 0) (hcap : z.toNatClampNeg ≤ cap) (hcb : cap * 8 ≤ 536870912) (hk : k + 1 = k') (hn : n + cap = n') (hkR : k' ≤ R.cells) (hnR : n' ≤ R.slots)
    (r : ∀ T' h' cA a, a = h.size → St p l e R s m args below meth c n0 T' h' k' n' → Ext h h' → Arv Z h' a cA (.object K) z [] .null → Ovr Z cA K → Goes p e below G (T'.setTop (mkF m q L (.ref a :: st)))) : Goes p e below G (T.setTop (mkF m pc L (.int z :: st))) := by
  obtain ⟨hx, hZ, hown, hby, -⟩ := C
  obtain ⟨_, _, _, X, hF, eT, h1, h2⟩ := X
  subst hq hk hn
  obtain ⟨T', h', cA, X', e', E', A', O', st'⟩ := newR X hx hZ hown w1 w2 eT (g := mkF m pc L (.int z :: st)) rfl (hb hby hd) rfl hz (cap := cap) hcap hcb (Nat.le_trans (Nat.add_le_add_right h1 1) hkR) (Nat.le_trans (Nat.add_le_add_right h2 cap) hnR)
  exact go_st st' (r T' h' cA _ rfl ⟨_, _, _, X', hF, e', Nat.add_le_add_right h1 1, Nat.add_le_add_right h2 cap⟩ E' (Arv.new A' hz) O')
theorem g_castY (C : Cx p s m meth c Z own bytes ml rt mn) (X : St p l e R s m args below meth c n0 T h k n) {K : String} {i : Nat} {a : Addr} (w : (Cond.classLink own i K).before a0 Z = true) (I : Ins Z h a K true) (hd : decode bytes pc = .ok (.checkcast i, 3)) (hq : pc + 3 = q) (r : ∀ T', St p l e R s m args below meth c n0 T' h k n → Goes p e below G (T'.setTop (mkF m q L (.ref a :: st)))) : Goes p e below G (T.setTop (mkF m pc L (.ref a :: st))) := by
  obtain ⟨hx, hZ, hown, hby, -⟩ := C
  obtain ⟨_, _, _, X, hF, eT, h1, h2⟩ := X
  subst hq
  obtain ⟨T', X', e', st'⟩ := castY X hx hZ hown w eT I (g := mkF m pc L (.ref a :: st)) rfl rfl (hb hby hd)
  exact go_st st' (r T' ⟨_, _, _, X', hF, e', h1, h2⟩)
theorem g_instY (C : Cx p s m meth c Z own bytes ml rt mn) (X : St p l e R s m args below meth c n0 T h k n) {K : String} {i : Nat} {a : Addr} (w : (Cond.classLink own i K).before a0 Z = true) (I : Ins Z h a K true) (hd : decode bytes pc = .ok (.instanceof i, 3)) (hq : pc + 3 = q) (r : ∀ T', St p l e R s m args below meth c n0 T' h k n → Goes p e below G (T'.setTop (mkF m q L (.int 1 :: st)))) : Goes p e below G (T.setTop (mkF m pc L (.ref a :: st))) := by
  obtain ⟨hx, hZ, hown, hby, -⟩ := C
  obtain ⟨_, _, _, X, hF, eT, h1, h2⟩ := X
  subst hq
  obtain ⟨T', X', e', st'⟩ := instY X hx hZ hown w eT I (g := mkF m pc L (.ref a :: st)) rfl rfl (hb hby hd)
  exact go_st st' (r T' ⟨_, _, _, X', hF, e', h1, h2⟩)
theorem g_instNo (C : Cx p s m meth c Z own bytes ml rt mn) (X : St p l e R s m args below meth c n0 T h k n) {K K' : String} {i : Nat} {a : Addr} (w : (Cond.classLink own i K).before a0 Z = true) (E : Exa Z h a K') (F : ∃ c t, Z.vm.findClass K' = some c ∧ Z.vm.findClass K = some t ∧ Z.vm.assignable c t = false) (hd : decode bytes pc = .ok (.instanceof i, 3)) (hq : pc + 3 = q) (r : ∀ T', St p l e R s m args below meth c n0 T' h k n → Goes p e below G (T'.setTop (mkF m q L (.int 0 :: st)))) : Goes p e below G (T.setTop (mkF m pc L (.ref a :: st))) := by
  obtain ⟨hx, hZ, hown, hby, -⟩ := C
  obtain ⟨_, _, _, X, hF, eT, h1, h2⟩ := X
  subst hq
  obtain ⟨T', X', e', st'⟩ := instNo X hx hZ hown w eT E F (g := mkF m pc L (.ref a :: st)) rfl rfl (hb hby hd)
  exact go_st st' (r T' ⟨_, _, _, X', hF, e', h1, h2⟩)
theorem g_instNull (C : Cx p s m meth c Z own bytes ml rt mn) (X : St p l e R s m args below meth c n0 T h k n) {i : Nat} (hd : decode bytes pc = .ok (.instanceof i, 3)) (hq : pc + 3 = q) (r : Goes p e below G (T.setTop (mkF m q L (.int 0 :: st)))) : Goes p e below G (T.setTop (mkF m pc L (.null :: st))) := by
  obtain ⟨hx, hZ, hown, hby, -⟩ := C
  obtain ⟨_, _, _, X, hF, eT, h1, h2⟩ := X
  subst hq
  exact go_st (fun t k => X.instanceofNull hx (g := mkF m pc L (.null :: st)) rfl rfl (hb hby hd) t k) r
theorem g_castNull (C : Cx p s m meth c Z own bytes ml rt mn) (X : St p l e R s m args below meth c n0 T h k n) {i : Nat} (hd : decode bytes pc = .ok (.checkcast i, 3)) (hq : pc + 3 = q) (r : Goes p e below G (T.setTop (mkF m q L (.null :: st)))) : Goes p e below G (T.setTop (mkF m pc L (.null :: st))) := by
  obtain ⟨hx, hZ, hown, hby, -⟩ := C
  obtain ⟨_, _, _, X, hF, eT, h1, h2⟩ := X
  subst hq
  exact go_st (fun t k => X.checkcastNull hx (g := mkF m pc L (.null :: st)) rfl rfl (hb hby hd) t k) r
theorem g_getClass (C : Cx p s m meth c Z own bytes ml rt mn) (X : St p l e R s m args below meth c n0 T h k n) {K : String} {i : Nat} {a mr : Addr} (w1 : (Cond.methodLink own i ⟨"java/lang/Object", "getClass", "()Ljava/lang/Class;"⟩).before a0 Z = true) (w2 : (Cond.declares ⟨"java/lang/Object", "getClass", "()Ljava/lang/Class;"⟩).before a0 Z = true) (w4 : (Cond.selects K ⟨"java/lang/Object", "getClass", "()Ljava/lang/Class;"⟩ ⟨"java/lang/Object", "getClass", "()Ljava/lang/Class;"⟩).before a0 Z = true)
    (w5 : (Cond.instanceMethod ⟨"java/lang/Object", "getClass", "()Ljava/lang/Class;"⟩).before a0 Z = true) (w6 : (Cond.native ⟨"java/lang/Object", "getClass", "()Ljava/lang/Class;"⟩).before a0 Z = true) (E : Exa Z h a K) (M : ∃ c k, Z.vm.findClass K = some c ∧ Z.vm.classes[c]? = some k ∧ k.mirror = some mr) (hsz : L.size = ml) (hd : decode bytes pc = .ok (.invokevirtual i, 3)) (hq : pc + 3 = q) (hf : 1 ≤ R.frames) (hl : (st.map fun v => v.category).sum + (nativeFrameWords "java/lang/Object" "getClass" 1 + 11) ≤ R.locals)
    (r : ∀ T', St p l e R s m args below meth c n0 T' h k n → Goes p e below G (T'.setTop (mkF m q L (.ref mr :: st)))) : Goes p e below G (T.setTop (mkF m pc L (.ref a :: st))) := by
  obtain ⟨hx, hZ, hown, hby, hml, -⟩ := C
  obtain ⟨_, _, _, X, hF, eT, h1, h2⟩ := X
  subst hq
  obtain ⟨cB, kB, i1, i2, i3⟩ := isOf hZ eT E
  obtain ⟨cc, kc, m1, m2, m3⟩ := M
  rw [hZ.alike.findClass] at i1
  cases i1.symm.trans m1
  obtain ⟨k', q, ek⟩ := hZ.alike.2.2 _ _ m2
  obtain ⟨vm', X', st'⟩ := X.getClassOf hx hown (mvT hZ w1) (mvT hZ w2) (notFace_of_selects (args := #[]) (mvT hZ w4)) (mvT hZ w4) (mvT hZ w5) (mvT hZ w6) (by rw [hZ.alike.findClass]; exact m1) i3 q (by rw [ek]; exact m3) (g := mkF m pc L (.ref a :: st)) rfl (hsz.trans hml.symm) rfl (hb hby hd) hf (by show 2 * 0 + _ + _ ≤ _; omega)
  exact go_st st' (r _ ⟨_, _, _, X', hF, eT, h1, h2⟩)
theorem g_callSb (C : Cx p s m meth c Z own bytes ml rt mn) (X : St p l e R s m args below meth c n0 T h k n) {as' : Array Value} {argsL : List Value} {ps : List FieldType} {rt' : Option FieldType} {k' n' W kc ks : Nat} {QL : Option Value → Heap → List Loc → Prop} {y : MethodName} {i : Nat} (hy : y.cls ≠ "java/lang/invoke/MethodHandle" ∧ y.cls ≠ "java/lang/invoke/VarHandle") (w1 : (Cond.methodLink own i y).before a0 Z = true) (w2 : (Cond.static y).before a0 Z = true) {bts : ByteArray} {mxl : Nat} {rty : Option FieldType} (w8 : (Cond.code y bts mxl rty).before a0 Z = true) (w9 : (Cond.initialized y.cls).before a0 Z = true) (bk : Back l R p e below s args y 3 W (fun A a => a = as' ∧ A.U.heap = h ∧ A.cells + kc ≤ R.cells ∧ A.slots + ks ≤ R.slots) (fun A _ v B => ∃ L, QL v B.U.heap L ∧ B.locs = A.locs ++ L ∧ B.cells = A.cells + kc ∧ B.slots = A.slots + ks)) (hk : k + kc = k') (hn : n + ks = n') (hkR : k' ≤ R.cells) (hnR : n' ≤ R.slots) (hsz : L.size = ml) (hdd : parseMethodDescriptor y.desc = some ⟨ps, rt'⟩) (hlen : argsL.length = ps.length) (hst : st = argsL.reverse ++ rest) (has : argsL.toArray = as') (hW : (rest.map fun v => v.category).sum = W) (hd : decode bytes pc = .ok (.invokestatic i, 3)) (hq : pc + 3 = q)
    (r : ∀ v T' h' L', St p l e R s m args below meth c n0 T' h' k' n' ∨ ¬ Fr n0 L' → QL v h' L' → Goes p e below G (T'.setTop (mkF m q L (v.toList ++ rest)))) : Goes p e below G (T.setTop (mkF m pc L st)) := by
  obtain ⟨hx, hZ, hown, hby, hml, -⟩ := C
  obtain ⟨_, cells, slots, X, hF, eT, h1, h2⟩ := X
  subst hq hk hn has hst hW
  obtain ⟨_, _, ⟨T', Lo, kk, nn⟩, -, X', ⟨Lc, hQ, q1, q2, q3⟩, st'⟩ := Jvm.LawKit.callS X hx hown (mvT hZ w1) (mvT hZ w2) (mvT hZ w9) (mvT hZ w8) hy bk (g := mkF m pc L (argsL.reverse ++ rest)) rfl (hsz.trans hml.symm) (argsL := argsL) (rest := rest) (lenOf hdd hlen) rfl (by show 2 * 0 + _ ≤ _; omega) (hb hby hd) (fun _ _ => ⟨rfl, eT, Nat.le_trans (Nat.add_le_add_right h1 _) hkR, Nat.le_trans (Nat.add_le_add_right h2 _) hnR⟩)
  dsimp only [Pt.U, Pt.locs, Pt.cells, Pt.slots] at X' q1 q2 q3 st' hQ
  subst q1 q2 q3
  refine go_st st' (r _ T' _ Lc ?_ hQ)
  by_cases hFr : Fr n0 Lc
  · exact Or.inl ⟨_, _, _, X', Fr.app hF hFr, rfl, Nat.add_le_add_right h1 _, Nat.add_le_add_right h2 _⟩
  · exact Or.inr hFr
theorem g_callS1 (C : Cx p s m meth c Z own bytes ml rt mn) (X : St p l e R s m args below meth c n0 T h k n) {rm : Room} {as' : Array Value} {bts : ByteArray} {mxl : Nat} {rty : Option FieldType} {argsL : List Value} {ps : List FieldType} {rt' : Option FieldType} {k' n' W : Nat} {Q : Value → Heap → Prop} {y : MethodName} {i : Nat} (hy : y.cls ≠ "java/lang/invoke/MethodHandle" ∧ y.cls ≠ "java/lang/invoke/VarHandle") (w1 : (Cond.methodLink own i y).before a0 Z = true) (w2 : (Cond.static y).before a0 Z = true) (w8 : (Cond.code y bts mxl rty).before a0 Z = true) (w9 : (Cond.initialized y.cls).before a0 Z = true) (hM : Met1 l Z y bts mxl rty rm as' h n0 Q) (hf : rm.frames + 1 ≤ R.frames) (hl : W + (mxl + 11) + rm.locals ≤ R.locals) (hk : k + rm.cells = k') (hn : n + rm.slots = n') (hkR : k' ≤ R.cells) (hnR : n' ≤ R.slots) (hsz : L.size = ml) (hdd : parseMethodDescriptor y.desc = some ⟨ps, rt'⟩) (hlen : argsL.length = ps.length) (hst : st = argsL.reverse ++ rest) (has : argsL.toArray = as') (hW : (rest.map fun v => v.category).sum = W) (hd : decode bytes pc = .ok (.invokestatic i, 3)) (hq : pc + 3 = q)
    (r : ∀ w T' h', St p l e R s m args below meth c n0 T' h' k' n' → Q w h' → Goes p e below G (T'.setTop (mkF m q L (w :: rest)))) : Goes p e below G (T.setTop (mkF m pc L st)) := by
  have bk := backOf (Q := fun v h L => Fr n0 L ∧ (∃ w, v = some w ∧ Q w h)) (R := R) (p := p) (e := e) (below := below) (s := s) (args := args) (len := 3) (W := W) (hM []) C.2.1 w8 w9 hf hl
  refine g_callSb C X (QL := fun v h L => Fr n0 L ∧ (∃ w, v = some w ∧ Q w h)) hy w1 w2 w8 w9 bk hk hn hkR hnR hsz hdd hlen hst has hW hd hq ?_
  rintro v T' h' L' hX ⟨hFr, hQ⟩
  obtain ⟨w, rfl, hQ⟩ := hQ
  exact r w T' h' (hX.resolve_right fun z => z hFr) hQ
theorem g_callS0 (C : Cx p s m meth c Z own bytes ml rt mn) (X : St p l e R s m args below meth c n0 T h k n) {rm : Room} {as' : Array Value} {bts : ByteArray} {mxl : Nat} {rty : Option FieldType} {argsL : List Value} {ps : List FieldType} {rt' : Option FieldType} {k' n' W : Nat} {Q : Heap → Prop} {y : MethodName} {i : Nat} (hy : y.cls ≠ "java/lang/invoke/MethodHandle" ∧ y.cls ≠ "java/lang/invoke/VarHandle") (w1 : (Cond.methodLink own i y).before a0 Z = true) (w2 : (Cond.static y).before a0 Z = true) (w8 : (Cond.code y bts mxl rty).before a0 Z = true) (w9 : (Cond.initialized y.cls).before a0 Z = true) (hM : Met0 l Z y bts mxl rty rm as' h n0 Q) (hf : rm.frames + 1 ≤ R.frames) (hl : W + (mxl + 11) + rm.locals ≤ R.locals) (hk : k + rm.cells = k') (hn : n + rm.slots = n') (hkR : k' ≤ R.cells) (hnR : n' ≤ R.slots) (hsz : L.size = ml) (hdd : parseMethodDescriptor y.desc = some ⟨ps, rt'⟩) (hlen : argsL.length = ps.length) (hst : st = argsL.reverse ++ rest) (has : argsL.toArray = as') (hW : (rest.map fun v => v.category).sum = W) (hd : decode bytes pc = .ok (.invokestatic i, 3)) (hq : pc + 3 = q)
    (r : ∀ T' h', St p l e R s m args below meth c n0 T' h' k' n' → Q h' → Goes p e below G (T'.setTop (mkF m q L rest))) : Goes p e below G (T.setTop (mkF m pc L st)) := by
  have bk := backOf (Q := fun v h L => Fr n0 L ∧ (v = none ∧ Q h)) (R := R) (p := p) (e := e) (below := below) (s := s) (args := args) (len := 3) (W := W) (hM []) C.2.1 w8 w9 hf hl
  refine g_callSb C X (QL := fun v h L => Fr n0 L ∧ (v = none ∧ Q h)) hy w1 w2 w8 w9 bk hk hn hkR hnR hsz hdd hlen hst has hW hd hq ?_
  rintro v T' h' L' hX ⟨hFr, hQ⟩
  obtain ⟨rfl, hQ⟩ := hQ
  exact r T' h' (hX.resolve_right fun z => z hFr) hQ
theorem g_callIb (C : Cx p s m meth c Z own bytes ml rt mn) (X : St p l e R s m args below meth c n0 T h k n) {as' : Array Value} {argsL : List Value} {ps : List FieldType} {rt' : Option FieldType} {k' n' W kc ks : Nat} {QL : Option Value → Heap → List Loc → Prop} {y : MethodName} {i : Nat} {a : Addr} (hy : y.cls ≠ "java/lang/invoke/MethodHandle" ∧ y.cls ≠ "java/lang/invoke/VarHandle") (hy1 : y.name = "<init>") (w1 : (Cond.methodLink own i y).before a0 Z = true) (w2 : (Cond.instanceMethod y).before a0 Z = true) {bts : ByteArray} {mxl : Nat} (w8 : (Cond.code y bts mxl none).before a0 Z = true) (bk : Back l R p e below s args y 3 W (fun A a => a = as' ∧ A.U.heap = h ∧ A.cells + kc ≤ R.cells ∧ A.slots + ks ≤ R.slots) (fun A _ v B => ∃ L, QL v B.U.heap L ∧ B.locs = A.locs ++ L ∧ B.cells = A.cells + kc ∧ B.slots = A.slots + ks)) (hk : k + kc = k') (hn : n + ks = n') (hkR : k' ≤ R.cells) (hnR : n' ≤ R.slots) (hsz : L.size = ml) (hdd : parseMethodDescriptor y.desc = some ⟨ps, rt'⟩) (hlen : argsL.length = ps.length) (hst : st = argsL.reverse ++ .ref a :: rest) (has : (.ref a :: argsL).toArray = as') (hW : (rest.map fun v => v.category).sum = W) (hd : decode bytes pc = .ok (.invokespecial i, 3)) (hq : pc + 3 = q)
    (r : ∀ v T' h' L', St p l e R s m args below meth c n0 T' h' k' n' ∨ ¬ Fr n0 L' → QL v h' L' → Goes p e below G (T'.setTop (mkF m q L (v.toList ++ rest)))) : Goes p e below G (T.setTop (mkF m pc L st)) := by
  obtain ⟨hx, hZ, hown, hby, hml, -⟩ := C
  obtain ⟨_, cells, slots, X, hF, eT, h1, h2⟩ := X
  subst hq hk hn has hst hW
  obtain ⟨_, _, ⟨T', Lo, kk, nn⟩, -, X', ⟨Lc, hQ, q1, q2, q3⟩, st'⟩ := X.specialBack hx hy1 hown (mvT hZ w1) (mvT hZ w2) (mvT hZ w8) hy bk (g := mkF m pc L (argsL.reverse ++ .ref a :: rest)) rfl (hsz.trans hml.symm) (Steps.refl _) (a := a) (argsL := argsL) (rest := rest) (lenOf hdd hlen) rfl (by show 2 * 0 + _ ≤ _; omega) (hb hby hd) (fun _ _ => ⟨rfl, eT, Nat.le_trans (Nat.add_le_add_right h1 _) hkR, Nat.le_trans (Nat.add_le_add_right h2 _) hnR⟩)
  dsimp only [Pt.U, Pt.locs, Pt.cells, Pt.slots] at X' q1 q2 q3 st' hQ
  subst q1 q2 q3
  refine go_tr st' (r _ T' _ Lc ?_ hQ)
  by_cases hFr : Fr n0 Lc
  · exact Or.inl ⟨_, _, _, X', Fr.app hF hFr, rfl, Nat.add_le_add_right h1 _, Nat.add_le_add_right h2 _⟩
  · exact Or.inr hFr
theorem g_callI0 (C : Cx p s m meth c Z own bytes ml rt mn) (X : St p l e R s m args below meth c n0 T h k n) {rm : Room} {as' : Array Value} {bts : ByteArray} {mxl : Nat} {argsL : List Value} {ps : List FieldType} {rt' : Option FieldType} {k' n' W : Nat} {Q : Heap → Prop} {y : MethodName} {i : Nat} {a : Addr} (hy : y.cls ≠ "java/lang/invoke/MethodHandle" ∧ y.cls ≠ "java/lang/invoke/VarHandle") (hy1 : y.name = "<init>") (w1 : (Cond.methodLink own i y).before a0 Z = true) (w2 : (Cond.instanceMethod y).before a0 Z = true) (w8 : (Cond.code y bts mxl none).before a0 Z = true) (w9 : (Cond.initialized y.cls).before a0 Z = true) (hM : Met0 l Z y bts mxl none rm as' h n0 Q) (hf : rm.frames + 1 ≤ R.frames) (hl : W + (mxl + 11) + rm.locals ≤ R.locals) (hk : k + rm.cells = k') (hn : n + rm.slots = n') (hkR : k' ≤ R.cells) (hnR : n' ≤ R.slots) (hsz : L.size = ml) (hdd : parseMethodDescriptor y.desc = some ⟨ps, rt'⟩) (hlen : argsL.length = ps.length) (hst : st = argsL.reverse ++ .ref a :: rest) (has : (.ref a :: argsL).toArray = as') (hW : (rest.map fun v => v.category).sum = W) (hd : decode bytes pc = .ok (.invokespecial i, 3)) (hq : pc + 3 = q)
    (r : ∀ T' h', St p l e R s m args below meth c n0 T' h' k' n' → Q h' → Goes p e below G (T'.setTop (mkF m q L rest))) : Goes p e below G (T.setTop (mkF m pc L st)) := by
  have bk := backOf (Q := fun v h L => Fr n0 L ∧ (v = none ∧ Q h)) (R := R) (p := p) (e := e) (below := below) (s := s) (args := args) (len := 3) (W := W) (hM []) C.2.1 w8 w9 hf hl
  refine g_callIb C X (QL := fun v h L => Fr n0 L ∧ (v = none ∧ Q h)) hy hy1 w1 w2 w8 bk hk hn hkR hnR hsz hdd hlen hst has hW hd hq ?_
  rintro v T' h' L' hX ⟨hFr, hQ⟩
  obtain ⟨rfl, hQ⟩ := hQ
  exact r T' h' (hX.resolve_right fun z => z hFr) hQ
theorem g_callVb (C : Cx p s m meth c Z own bytes ml rt mn) (X : St p l e R s m args below meth c n0 T h k n) {as' : Array Value} {argsL : List Value} {ps : List FieldType} {rt' : Option FieldType} {k' n' W kc ks : Nat} {QL : Option Value → Heap → List Loc → Prop} {y z : MethodName} {i : Nat} {a : Addr} {K : String} (hy : y.cls ≠ "java/lang/invoke/MethodHandle" ∧ y.cls ≠ "java/lang/invoke/VarHandle") (w1 : (Cond.methodLink own i y).before a0 Z = true) (w2 : (Cond.declares y).before a0 Z = true) (w3 : (Cond.selects K y z).before a0 Z = true) (w4 : (Cond.instanceMethod z).before a0 Z = true) (hnf : ∀ s' : State, Z.Warmed39 s'.vm → NotFace s' y) (E : Exa Z h a K) (bk : Back l R p e below s args z 3 W (fun A a => a = as' ∧ A.U.heap = h ∧ A.cells + kc ≤ R.cells ∧ A.slots + ks ≤ R.slots) (fun A _ v B => ∃ L, QL v B.U.heap L ∧ B.locs = A.locs ++ L ∧ B.cells = A.cells + kc ∧ B.slots = A.slots + ks)) (hk : k + kc = k') (hn : n + ks = n') (hkR : k' ≤ R.cells) (hnR : n' ≤ R.slots) (hsz : L.size = ml) (hdd : parseMethodDescriptor y.desc = some ⟨ps, rt'⟩) (hlen : argsL.length = ps.length) (hst : st = argsL.reverse ++ .ref a :: rest) (has : (.ref a :: argsL).toArray = as') (hW : (rest.map fun v => v.category).sum = W) (hd : decode bytes pc = .ok (.invokevirtual i, 3)) (hq : pc + 3 = q)
    (r : ∀ v T' h' L', St p l e R s m args below meth c n0 T' h' k' n' ∨ ¬ Fr n0 L' → QL v h' L' → Goes p e below G (T'.setTop (mkF m q L (v.toList ++ rest)))) : Goes p e below G (T.setTop (mkF m pc L st)) := by
  obtain ⟨hx, hZ, hown, hby, hml, -⟩ := C
  obtain ⟨_, cells, slots, X, hF, eT, h1, h2⟩ := X
  subst hq hk hn has hst hW
  obtain ⟨cB, kB, qa, qb, qc⟩ := isOf hZ eT E
  obtain ⟨_, _, ⟨T', Lo, kk, nn⟩, -, X', ⟨Lc, hQ, q1, q2, q3⟩, st'⟩ := X.virtualBack hx hown (mvT hZ w1) (mvT hZ w2) (hnf s hZ) (mvT hZ w3) (mvT hZ w4) hy bk qa qc (g := mkF m pc L (argsL.reverse ++ .ref a :: rest)) rfl (hsz.trans hml.symm) (Steps.refl _) (argsL := argsL) (rest := rest) (lenOf hdd hlen) rfl (by show 2 * 0 + _ ≤ _; omega) (hb hby hd) (fun _ _ => ⟨rfl, eT, Nat.le_trans (Nat.add_le_add_right h1 _) hkR, Nat.le_trans (Nat.add_le_add_right h2 _) hnR⟩)
  dsimp only [Pt.U, Pt.locs, Pt.cells, Pt.slots] at X' q1 q2 q3 st' hQ
  subst q1 q2 q3
  refine go_tr st' (r _ T' _ Lc ?_ hQ)
  by_cases hFr : Fr n0 Lc
  · exact Or.inl ⟨_, _, _, X', Fr.app hF hFr, rfl, Nat.add_le_add_right h1 _, Nat.add_le_add_right h2 _⟩
  · exact Or.inr hFr
theorem g_callV1 (C : Cx p s m meth c Z own bytes ml rt mn) (X : St p l e R s m args below meth c n0 T h k n) {rm : Room} {as' : Array Value} {bts : ByteArray} {mxl : Nat} {rty : Option FieldType} {argsL : List Value} {ps : List FieldType} {rt' : Option FieldType} {k' n' W : Nat} {Q : Value → Heap → Prop} {y z : MethodName} {i : Nat} {a : Addr} {K : String} (hy : y.cls ≠ "java/lang/invoke/MethodHandle" ∧ y.cls ≠ "java/lang/invoke/VarHandle") (w1 : (Cond.methodLink own i y).before a0 Z = true) (w2 : (Cond.declares y).before a0 Z = true) (w3 : (Cond.selects K y z).before a0 Z = true) (w4 : (Cond.instanceMethod z).before a0 Z = true) (hnf : ∀ s' : State, Z.Warmed39 s'.vm → NotFace s' y) (E : Exa Z h a K) (w8 : (Cond.code z bts mxl rty).before a0 Z = true) (w9 : (Cond.initialized z.cls).before a0 Z = true) (hM : Met1 l Z z bts mxl rty rm as' h n0 Q) (hf : rm.frames + 1 ≤ R.frames) (hl : W + (mxl + 11) + rm.locals ≤ R.locals) (hk : k + rm.cells = k') (hn : n + rm.slots = n') (hkR : k' ≤ R.cells) (hnR : n' ≤ R.slots) (hsz : L.size = ml) (hdd : parseMethodDescriptor y.desc = some ⟨ps, rt'⟩) (hlen : argsL.length = ps.length) (hst : st = argsL.reverse ++ .ref a :: rest) (has : (.ref a :: argsL).toArray = as') (hW : (rest.map fun v => v.category).sum = W) (hd : decode bytes pc = .ok (.invokevirtual i, 3)) (hq : pc + 3 = q)
    (r : ∀ w T' h', St p l e R s m args below meth c n0 T' h' k' n' → Q w h' → Goes p e below G (T'.setTop (mkF m q L (w :: rest)))) : Goes p e below G (T.setTop (mkF m pc L st)) := by
  have bk := backOf (Q := fun v h L => Fr n0 L ∧ (∃ w, v = some w ∧ Q w h)) (R := R) (p := p) (e := e) (below := below) (s := s) (args := args) (len := 3) (W := W) (hM []) C.2.1 w8 w9 hf hl
  refine g_callVb C X (QL := fun v h L => Fr n0 L ∧ (∃ w, v = some w ∧ Q w h)) hy w1 w2 w3 w4 hnf E bk hk hn hkR hnR hsz hdd hlen hst has hW hd hq ?_
  rintro v T' h' L' hX ⟨hFr, hQ⟩
  obtain ⟨w, rfl, hQ⟩ := hQ
  exact r w T' h' (hX.resolve_right fun z => z hFr) hQ
theorem g_callV0 (C : Cx p s m meth c Z own bytes ml rt mn) (X : St p l e R s m args below meth c n0 T h k n) {rm : Room} {as' : Array Value} {bts : ByteArray} {mxl : Nat} {rty : Option FieldType} {argsL : List Value} {ps : List FieldType} {rt' : Option FieldType} {k' n' W : Nat} {Q : Heap → Prop} {y z : MethodName} {i : Nat} {a : Addr} {K : String} (hy : y.cls ≠ "java/lang/invoke/MethodHandle" ∧ y.cls ≠ "java/lang/invoke/VarHandle") (w1 : (Cond.methodLink own i y).before a0 Z = true) (w2 : (Cond.declares y).before a0 Z = true) (w3 : (Cond.selects K y z).before a0 Z = true) (w4 : (Cond.instanceMethod z).before a0 Z = true) (hnf : ∀ s' : State, Z.Warmed39 s'.vm → NotFace s' y) (E : Exa Z h a K) (w8 : (Cond.code z bts mxl rty).before a0 Z = true) (w9 : (Cond.initialized z.cls).before a0 Z = true) (hM : Met0 l Z z bts mxl rty rm as' h n0 Q) (hf : rm.frames + 1 ≤ R.frames) (hl : W + (mxl + 11) + rm.locals ≤ R.locals) (hk : k + rm.cells = k') (hn : n + rm.slots = n') (hkR : k' ≤ R.cells) (hnR : n' ≤ R.slots) (hsz : L.size = ml) (hdd : parseMethodDescriptor y.desc = some ⟨ps, rt'⟩) (hlen : argsL.length = ps.length) (hst : st = argsL.reverse ++ .ref a :: rest) (has : (.ref a :: argsL).toArray = as') (hW : (rest.map fun v => v.category).sum = W) (hd : decode bytes pc = .ok (.invokevirtual i, 3)) (hq : pc + 3 = q)
    (r : ∀ T' h', St p l e R s m args below meth c n0 T' h' k' n' → Q h' → Goes p e below G (T'.setTop (mkF m q L rest))) : Goes p e below G (T.setTop (mkF m pc L st)) := by
  have bk := backOf (Q := fun v h L => Fr n0 L ∧ (v = none ∧ Q h)) (R := R) (p := p) (e := e) (below := below) (s := s) (args := args) (len := 3) (W := W) (hM []) C.2.1 w8 w9 hf hl
  refine g_callVb C X (QL := fun v h L => Fr n0 L ∧ (v = none ∧ Q h)) hy w1 w2 w3 w4 hnf E bk hk hn hkR hnR hsz hdd hlen hst has hW hd hq ?_
  rintro v T' h' L' hX ⟨hFr, hQ⟩
  obtain ⟨rfl, hQ⟩ := hQ
  exact r T' h' (hX.resolve_right fun z => z hFr) hQ
theorem g_callUb (C : Cx p s m meth c Z own bytes ml rt mn) (X : St p l e R s m args below meth c n0 T h k n) {as' : Array Value} {argsL : List Value} {ps : List FieldType} {rt' : Option FieldType} {k' n' W kc ks : Nat} {QL : Option Value → Heap → List Loc → Prop} {y z : MethodName} {i : Nat} {a : Addr} {K owner : String} (hy : owner ≠ "java/lang/invoke/MethodHandle" ∧ owner ≠ "java/lang/invoke/VarHandle") (w1 : (Cond.methodLink own i y).before a0 Z = true) (w2 : (Cond.sameMethod y.cls owner y.name y.desc).before a0 Z = true) (w2' : (Cond.declares ⟨owner, y.name, y.desc⟩).before a0 Z = true) (w3 : (Cond.selects K y z).before a0 Z = true) (w4 : (Cond.instanceMethod z).before a0 Z = true) (E : Exa Z h a K) (bk : Back l R p e below s args z 3 W (fun A a => a = as' ∧ A.U.heap = h ∧ A.cells + kc ≤ R.cells ∧ A.slots + ks ≤ R.slots) (fun A _ v B => ∃ L, QL v B.U.heap L ∧ B.locs = A.locs ++ L ∧ B.cells = A.cells + kc ∧ B.slots = A.slots + ks)) (hk : k + kc = k') (hn : n + ks = n') (hkR : k' ≤ R.cells) (hnR : n' ≤ R.slots) (hsz : L.size = ml) (hdd : parseMethodDescriptor y.desc = some ⟨ps, rt'⟩) (hlen : argsL.length = ps.length) (hst : st = argsL.reverse ++ .ref a :: rest) (has : (.ref a :: argsL).toArray = as') (hW : (rest.map fun v => v.category).sum = W) (hd : decode bytes pc = .ok (.invokevirtual i, 3)) (hq : pc + 3 = q)
    (r : ∀ v T' h' L', St p l e R s m args below meth c n0 T' h' k' n' ∨ ¬ Fr n0 L' → QL v h' L' → Goes p e below G (T'.setTop (mkF m q L (v.toList ++ rest)))) : Goes p e below G (T.setTop (mkF m pc L st)) := by
  obtain ⟨hx, hZ, hown, hby, hml, -⟩ := C
  obtain ⟨_, cells, slots, X, hF, eT, h1, h2⟩ := X
  subst hq hk hn has hst hW
  obtain ⟨cB, kB, qa, qb, qc⟩ := isOf hZ eT E
  obtain ⟨_, _, ⟨T', Lo, kk, nn⟩, -, X', ⟨Lc, hQ, q1, q2, q3⟩, st'⟩ := X.virtualBackUp hx hown (mvT hZ w1) (mvT hZ w2) (mvT hZ w2') hy (mvT hZ w3) (mvT hZ w4) bk qa qc (g := mkF m pc L (argsL.reverse ++ .ref a :: rest)) rfl (hsz.trans hml.symm) (Steps.refl _) (argsL := argsL) (rest := rest) (lenOf hdd hlen) rfl (by show 2 * 0 + _ ≤ _; omega) (hb hby hd) (fun _ _ => ⟨rfl, eT, Nat.le_trans (Nat.add_le_add_right h1 _) hkR, Nat.le_trans (Nat.add_le_add_right h2 _) hnR⟩)
  dsimp only [Pt.U, Pt.locs, Pt.cells, Pt.slots] at X' q1 q2 q3 st' hQ
  subst q1 q2 q3
  refine go_tr st' (r _ T' _ Lc ?_ hQ)
  by_cases hFr : Fr n0 Lc
  · exact Or.inl ⟨_, _, _, X', Fr.app hF hFr, rfl, Nat.add_le_add_right h1 _, Nat.add_le_add_right h2 _⟩
  · exact Or.inr hFr
theorem g_callU1 (C : Cx p s m meth c Z own bytes ml rt mn) (X : St p l e R s m args below meth c n0 T h k n) {rm : Room} {as' : Array Value} {bts : ByteArray} {mxl : Nat} {rty : Option FieldType} {argsL : List Value} {ps : List FieldType} {rt' : Option FieldType} {k' n' W : Nat} {Q : Value → Heap → Prop} {y z : MethodName} {i : Nat} {a : Addr} {K owner : String} (hy : owner ≠ "java/lang/invoke/MethodHandle" ∧ owner ≠ "java/lang/invoke/VarHandle") (w1 : (Cond.methodLink own i y).before a0 Z = true) (w2 : (Cond.sameMethod y.cls owner y.name y.desc).before a0 Z = true) (w2' : (Cond.declares ⟨owner, y.name, y.desc⟩).before a0 Z = true) (w3 : (Cond.selects K y z).before a0 Z = true) (w4 : (Cond.instanceMethod z).before a0 Z = true) (E : Exa Z h a K) (w8 : (Cond.code z bts mxl rty).before a0 Z = true) (w9 : (Cond.initialized z.cls).before a0 Z = true) (hM : Met1 l Z z bts mxl rty rm as' h n0 Q) (hf : rm.frames + 1 ≤ R.frames) (hl : W + (mxl + 11) + rm.locals ≤ R.locals) (hk : k + rm.cells = k') (hn : n + rm.slots = n') (hkR : k' ≤ R.cells) (hnR : n' ≤ R.slots) (hsz : L.size = ml) (hdd : parseMethodDescriptor y.desc = some ⟨ps, rt'⟩) (hlen : argsL.length = ps.length) (hst : st = argsL.reverse ++ .ref a :: rest) (has : (.ref a :: argsL).toArray = as') (hW : (rest.map fun v => v.category).sum = W) (hd : decode bytes pc = .ok (.invokevirtual i, 3)) (hq : pc + 3 = q)
    (r : ∀ w T' h', St p l e R s m args below meth c n0 T' h' k' n' → Q w h' → Goes p e below G (T'.setTop (mkF m q L (w :: rest)))) : Goes p e below G (T.setTop (mkF m pc L st)) := by
  have bk := backOf (Q := fun v h L => Fr n0 L ∧ (∃ w, v = some w ∧ Q w h)) (R := R) (p := p) (e := e) (below := below) (s := s) (args := args) (len := 3) (W := W) (hM []) C.2.1 w8 w9 hf hl
  refine g_callUb C X (QL := fun v h L => Fr n0 L ∧ (∃ w, v = some w ∧ Q w h)) hy w1 w2 w2' w3 w4 E bk hk hn hkR hnR hsz hdd hlen hst has hW hd hq ?_
  rintro v T' h' L' hX ⟨hFr, hQ⟩
  obtain ⟨w, rfl, hQ⟩ := hQ
  exact r w T' h' (hX.resolve_right fun z => z hFr) hQ
theorem g_callU0 (C : Cx p s m meth c Z own bytes ml rt mn) (X : St p l e R s m args below meth c n0 T h k n) {rm : Room} {as' : Array Value} {bts : ByteArray} {mxl : Nat} {rty : Option FieldType} {argsL : List Value} {ps : List FieldType} {rt' : Option FieldType} {k' n' W : Nat} {Q : Heap → Prop} {y z : MethodName} {i : Nat} {a : Addr} {K owner : String} (hy : owner ≠ "java/lang/invoke/MethodHandle" ∧ owner ≠ "java/lang/invoke/VarHandle") (w1 : (Cond.methodLink own i y).before a0 Z = true) (w2 : (Cond.sameMethod y.cls owner y.name y.desc).before a0 Z = true) (w2' : (Cond.declares ⟨owner, y.name, y.desc⟩).before a0 Z = true) (w3 : (Cond.selects K y z).before a0 Z = true) (w4 : (Cond.instanceMethod z).before a0 Z = true) (E : Exa Z h a K) (w8 : (Cond.code z bts mxl rty).before a0 Z = true) (w9 : (Cond.initialized z.cls).before a0 Z = true) (hM : Met0 l Z z bts mxl rty rm as' h n0 Q) (hf : rm.frames + 1 ≤ R.frames) (hl : W + (mxl + 11) + rm.locals ≤ R.locals) (hk : k + rm.cells = k') (hn : n + rm.slots = n') (hkR : k' ≤ R.cells) (hnR : n' ≤ R.slots) (hsz : L.size = ml) (hdd : parseMethodDescriptor y.desc = some ⟨ps, rt'⟩) (hlen : argsL.length = ps.length) (hst : st = argsL.reverse ++ .ref a :: rest) (has : (.ref a :: argsL).toArray = as') (hW : (rest.map fun v => v.category).sum = W) (hd : decode bytes pc = .ok (.invokevirtual i, 3)) (hq : pc + 3 = q)
    (r : ∀ T' h', St p l e R s m args below meth c n0 T' h' k' n' → Q h' → Goes p e below G (T'.setTop (mkF m q L rest))) : Goes p e below G (T.setTop (mkF m pc L st)) := by
  have bk := backOf (Q := fun v h L => Fr n0 L ∧ (v = none ∧ Q h)) (R := R) (p := p) (e := e) (below := below) (s := s) (args := args) (len := 3) (W := W) (hM []) C.2.1 w8 w9 hf hl
  refine g_callUb C X (QL := fun v h L => Fr n0 L ∧ (v = none ∧ Q h)) hy w1 w2 w2' w3 w4 E bk hk hn hkR hnR hsz hdd hlen hst has hW hd hq ?_
  rintro v T' h' L' hX ⟨hFr, hQ⟩
  obtain ⟨rfl, hQ⟩ := hQ
  exact r T' h' (hX.resolve_right fun z => z hFr) hQ
theorem g_callPb (C : Cx p s m meth c Z own bytes ml rt mn) (X : St p l e R s m args below meth c n0 T h k n) {as' : Array Value} {argsL : List Value} {ps : List FieldType} {rt' : Option FieldType} {k' n' W kc ks : Nat} {QL : Option Value → Heap → List Loc → Prop} {y : MethodName} {i : Nat} {a : Addr} {K : String} (hy : y.cls ≠ "java/lang/invoke/MethodHandle" ∧ y.cls ≠ "java/lang/invoke/VarHandle") (w1 : (Cond.methodLink own i y).before a0 Z = true) (w3 : (Cond.selects y.cls y y).before a0 Z = true) (w4 : (Cond.instanceMethod y).before a0 Z = true) (w5 : (Cond.privateMethod y).before a0 Z = true) (E : Exa Z h a K) {bts : ByteArray} {mxl : Nat} {rty : Option FieldType} (w8 : (Cond.code y bts mxl rty).before a0 Z = true) (bk : Back l R p e below s args y 3 W (fun A a => a = as' ∧ A.U.heap = h ∧ A.cells + kc ≤ R.cells ∧ A.slots + ks ≤ R.slots) (fun A _ v B => ∃ L, QL v B.U.heap L ∧ B.locs = A.locs ++ L ∧ B.cells = A.cells + kc ∧ B.slots = A.slots + ks)) (hk : k + kc = k') (hn : n + ks = n') (hkR : k' ≤ R.cells) (hnR : n' ≤ R.slots) (hsz : L.size = ml) (hdd : parseMethodDescriptor y.desc = some ⟨ps, rt'⟩) (hlen : argsL.length = ps.length) (hst : st = argsL.reverse ++ .ref a :: rest) (has : (.ref a :: argsL).toArray = as') (hW : (rest.map fun v => v.category).sum = W) (hd : decode bytes pc = .ok (.invokevirtual i, 3)) (hq : pc + 3 = q)
    (r : ∀ v T' h' L', St p l e R s m args below meth c n0 T' h' k' n' ∨ ¬ Fr n0 L' → QL v h' L' → Goes p e below G (T'.setTop (mkF m q L (v.toList ++ rest)))) : Goes p e below G (T.setTop (mkF m pc L st)) := by
  obtain ⟨hx, hZ, hown, hby, hml, -⟩ := C
  obtain ⟨_, cells, slots, X, hF, eT, h1, h2⟩ := X
  subst hq hk hn has hst hW
  obtain ⟨cq, qa, qb⟩ := E.cell
  obtain ⟨_, _, ⟨T', Lo, kk, nn⟩, -, X', ⟨Lc, hQ, q1, q2, q3⟩, st'⟩ := X.privateBack hx hown (mvT hZ w1) (mvT hZ w4) (mvT hZ w3) (Cond.privateMethod_at (mvP hZ w5 (args := #[]))) (mvT hZ w8) hy bk (g := mkF m pc L (argsL.reverse ++ .ref a :: rest)) rfl (hsz.trans hml.symm) (Steps.refl _) (a := a) (by rw [eT]; exact qa) qb (argsL := argsL) (rest := rest) (lenOf hdd hlen) rfl (by show 2 * 0 + _ ≤ _; omega) (hb hby hd) (fun _ _ => ⟨rfl, eT, Nat.le_trans (Nat.add_le_add_right h1 _) hkR, Nat.le_trans (Nat.add_le_add_right h2 _) hnR⟩)
  dsimp only [Pt.U, Pt.locs, Pt.cells, Pt.slots] at X' q1 q2 q3 st' hQ
  subst q1 q2 q3
  refine go_tr st' (r _ T' _ Lc ?_ hQ)
  by_cases hFr : Fr n0 Lc
  · exact Or.inl ⟨_, _, _, X', Fr.app hF hFr, rfl, Nat.add_le_add_right h1 _, Nat.add_le_add_right h2 _⟩
  · exact Or.inr hFr
theorem g_callP1 (C : Cx p s m meth c Z own bytes ml rt mn) (X : St p l e R s m args below meth c n0 T h k n) {rm : Room} {as' : Array Value} {bts : ByteArray} {mxl : Nat} {rty : Option FieldType} {argsL : List Value} {ps : List FieldType} {rt' : Option FieldType} {k' n' W : Nat} {Q : Value → Heap → Prop} {y : MethodName} {i : Nat} {a : Addr} {K : String} (hy : y.cls ≠ "java/lang/invoke/MethodHandle" ∧ y.cls ≠ "java/lang/invoke/VarHandle") (w1 : (Cond.methodLink own i y).before a0 Z = true) (w3 : (Cond.selects y.cls y y).before a0 Z = true) (w4 : (Cond.instanceMethod y).before a0 Z = true) (w5 : (Cond.privateMethod y).before a0 Z = true) (E : Exa Z h a K) (w8 : (Cond.code y bts mxl rty).before a0 Z = true) (w9 : (Cond.initialized y.cls).before a0 Z = true) (hM : Met1 l Z y bts mxl rty rm as' h n0 Q) (hf : rm.frames + 1 ≤ R.frames) (hl : W + (mxl + 11) + rm.locals ≤ R.locals) (hk : k + rm.cells = k') (hn : n + rm.slots = n') (hkR : k' ≤ R.cells) (hnR : n' ≤ R.slots) (hsz : L.size = ml) (hdd : parseMethodDescriptor y.desc = some ⟨ps, rt'⟩) (hlen : argsL.length = ps.length) (hst : st = argsL.reverse ++ .ref a :: rest) (has : (.ref a :: argsL).toArray = as') (hW : (rest.map fun v => v.category).sum = W) (hd : decode bytes pc = .ok (.invokevirtual i, 3)) (hq : pc + 3 = q)
    (r : ∀ w T' h', St p l e R s m args below meth c n0 T' h' k' n' → Q w h' → Goes p e below G (T'.setTop (mkF m q L (w :: rest)))) : Goes p e below G (T.setTop (mkF m pc L st)) := by
  have bk := backOf (Q := fun v h L => Fr n0 L ∧ (∃ w, v = some w ∧ Q w h)) (R := R) (p := p) (e := e) (below := below) (s := s) (args := args) (len := 3) (W := W) (hM []) C.2.1 w8 w9 hf hl
  refine g_callPb C X (QL := fun v h L => Fr n0 L ∧ (∃ w, v = some w ∧ Q w h)) hy w1 w3 w4 w5 E w8 bk hk hn hkR hnR hsz hdd hlen hst has hW hd hq ?_
  rintro v T' h' L' hX ⟨hFr, hQ⟩
  obtain ⟨w, rfl, hQ⟩ := hQ
  exact r w T' h' (hX.resolve_right fun z => z hFr) hQ
theorem g_callP0 (C : Cx p s m meth c Z own bytes ml rt mn) (X : St p l e R s m args below meth c n0 T h k n) {rm : Room} {as' : Array Value} {bts : ByteArray} {mxl : Nat} {rty : Option FieldType} {argsL : List Value} {ps : List FieldType} {rt' : Option FieldType} {k' n' W : Nat} {Q : Heap → Prop} {y : MethodName} {i : Nat} {a : Addr} {K : String} (hy : y.cls ≠ "java/lang/invoke/MethodHandle" ∧ y.cls ≠ "java/lang/invoke/VarHandle") (w1 : (Cond.methodLink own i y).before a0 Z = true) (w3 : (Cond.selects y.cls y y).before a0 Z = true) (w4 : (Cond.instanceMethod y).before a0 Z = true) (w5 : (Cond.privateMethod y).before a0 Z = true) (E : Exa Z h a K) (w8 : (Cond.code y bts mxl rty).before a0 Z = true) (w9 : (Cond.initialized y.cls).before a0 Z = true) (hM : Met0 l Z y bts mxl rty rm as' h n0 Q) (hf : rm.frames + 1 ≤ R.frames) (hl : W + (mxl + 11) + rm.locals ≤ R.locals) (hk : k + rm.cells = k') (hn : n + rm.slots = n') (hkR : k' ≤ R.cells) (hnR : n' ≤ R.slots) (hsz : L.size = ml) (hdd : parseMethodDescriptor y.desc = some ⟨ps, rt'⟩) (hlen : argsL.length = ps.length) (hst : st = argsL.reverse ++ .ref a :: rest) (has : (.ref a :: argsL).toArray = as') (hW : (rest.map fun v => v.category).sum = W) (hd : decode bytes pc = .ok (.invokevirtual i, 3)) (hq : pc + 3 = q)
    (r : ∀ T' h', St p l e R s m args below meth c n0 T' h' k' n' → Q h' → Goes p e below G (T'.setTop (mkF m q L rest))) : Goes p e below G (T.setTop (mkF m pc L st)) := by
  have bk := backOf (Q := fun v h L => Fr n0 L ∧ (v = none ∧ Q h)) (R := R) (p := p) (e := e) (below := below) (s := s) (args := args) (len := 3) (W := W) (hM []) C.2.1 w8 w9 hf hl
  refine g_callPb C X (QL := fun v h L => Fr n0 L ∧ (v = none ∧ Q h)) hy w1 w3 w4 w5 E w8 bk hk hn hkR hnR hsz hdd hlen hst has hW hd hq ?_
  rintro v T' h' L' hX ⟨hFr, hQ⟩
  obtain ⟨rfl, hQ⟩ := hQ
  exact r T' h' (hX.resolve_right fun z => z hFr) hQ
theorem sel_priv {y : MethodName} {kk : Nat} (wi : (Cond.instantiable y.cls kk).before a0 Z = true) (w4 : (Cond.instanceMethod y).before a0 Z = true) (w5 : (Cond.privateMethod y).before a0 Z = true) (hy : y.cls ≠ "java/lang/invoke/MethodHandle" ∧ y.cls ≠ "java/lang/invoke/VarHandle") : (Cond.selects y.cls y y).before a0 Z = true := by
  obtain ⟨c1, k1, i1, i2, -, i4, -⟩ := Cond.instantiable_spec wi
  exact Stand.selects_self_of_private i1 i2 (by simp only [Bool.or_eq_false_iff] at i4; exact i4.1) (Cond.privateMethod_at w5) w4 hy
theorem own_noInst {K O Ko : String} {nn : Nat} (wO : (Cond.noSuperclass O).before a0 Z = true) (wC : (Cond.superclass Ko O).before a0 Z = true) (wK : (Cond.instantiable K nn).before a0 Z = true) (h1 : Ko ≠ K) (h2 : O ≠ K) : ∃ c t, Z.vm.findClass Ko = some c ∧ Z.vm.findClass K = some t ∧ Z.vm.assignable c t = false := by
  obtain ⟨t, kt, g1, g2, g3, g4, -⟩ := Cond.instantiable_spec wK
  obtain ⟨o, ko, o1, o2, o3, -, -⟩ := Cond.noSuperclass_spec wO
  have neO := ids_ne o1 g1 h2
  have nO : NS Z O K := ⟨o, t, o1, g1, fun fuel => by
    cases fuel with
    | zero => rfl
    | succ f => simp [Vm.isSubclassAux, neO, o2, o3]⟩
  obtain ⟨c, t', h0, g0, n3⟩ := NS.step wC nO h1
  cases g1.symm.trans g0
  obtain ⟨p, k, kp, q1, q2, q3, q4, q5, -, q7⟩ := Cond.superclass_spec h0 wC
  have neC := ids_ne h0 g1 h1
  simp only [Bool.or_eq_false_iff] at g4
  refine ⟨c, t, h0, g1, ?_⟩
  show Z.vm.assignableAux (255 + 1) c t = false
  simp [Vm.assignableAux, neC, q2, g2, q5, g3, g4.1, Vm.isSubclass, n3]
theorem own_nb {b : Int32} {t : Bool} (h1 : t = true → b = 0) (h2 : t = false → b = 1) : nar .boolean b = b := by
  cases t
  · rw [h2 rfl]; decide
  · rw [h1 rfl]; decide
theorem nf_sel {y : MethodName} {K : String} (w : (Cond.selects K y y).before a0 Z = true) : ∀ s' : State, Z.Warmed39 s'.vm → NotFace s' y := fun s' hZ => notFace_of_selects (args := #[]) (mvT hZ w)
end OwnKit
theorem own_i32 {x y : Int32} (h : x.toInt = y.toInt) : x = y := Int32.toInt_inj.mp h
theorem own_r1 {u w : Int32} {hi : Int} (h : u.toInt ≤ hi) (hw : hi < w.toInt) : u < w := Int32.lt_iff_toInt_lt.mpr (Int.lt_of_le_of_lt h hw)
theorem own_r2 {u w : Int32} {lo : Int} (h : lo ≤ u.toInt) (hw : w.toInt ≤ lo) : ¬ u < w := fun q => by have := Int32.lt_iff_toInt_lt.mp q; omega
theorem own_r3 {u w : Int32} {lo : Int} (h : lo ≤ w.toInt) (hu : u.toInt < lo) : u < w := Int32.lt_iff_toInt_lt.mpr (by omega)
theorem own_r4 {u w : Int32} {hi : Int} (h : w.toInt ≤ hi) (hu : hi ≤ u.toInt) : ¬ u < w := fun q => by have := Int32.lt_iff_toInt_lt.mp q; omega
theorem own_r5 {u w : Int32} {lo : Int} (h : lo ≤ u.toInt) (hw : w.toInt < lo) : ¬ u = w := fun q => by subst q; omega
theorem own_r6 {u w : Int32} {hi : Int} (h : u.toInt ≤ hi) (hw : hi < w.toInt) : ¬ u = w := fun q => by subst q; omega
theorem own_f0 {u w : Int32} {z : Int} (h1 : z ≤ u.toInt) (h2 : u.toInt ≤ z) (hz : w.toInt = z) : u = w := own_i32 (by omega)
theorem own_f1 {u w : Int32} {z : Int} (h : u < w) (hz : w.toInt = z + 1) : u.toInt ≤ z := by have := Int32.lt_iff_toInt_lt.mp h; omega
theorem own_f2 {u w : Int32} {z : Int} (h : ¬ u < w) (hz : w.toInt = z) : z ≤ u.toInt := by rw [Int32.lt_iff_toInt_lt] at h; omega
theorem own_f3 {u w : Int32} {z : Int} (h : w < u) (hz : w.toInt + 1 = z) : z ≤ u.toInt := by have := Int32.lt_iff_toInt_lt.mp h; omega
theorem own_f4 {u w : Int32} {z : Int} (h : ¬ w < u) (hz : w.toInt = z) : u.toInt ≤ z := by rw [Int32.lt_iff_toInt_lt] at h; omega
theorem own_f5 {u w : Int32} {z lo : Int} (h : ¬ u = w) (hl : lo ≤ u.toInt) (hz : w.toInt = lo ∧ z = lo + 1) : z ≤ u.toInt := by
  have : u.toInt ≠ w.toInt := fun q => h (own_i32 q)
  omega
theorem own_f6 {u w : Int32} {z hi : Int} (h : ¬ u = w) (hl : u.toInt ≤ hi) (hz : w.toInt = hi ∧ z = hi - 1) : u.toInt ≤ z := by
  have : u.toInt ≠ w.toInt := fun q => h (own_i32 q)
  omega
theorem own_i2c {v : Int32} {lo hi : Int} (h1 : lo ≤ v.toInt) (h2 : v.toInt ≤ hi) (h3 : 0 ≤ lo) (h4 : hi ≤ 65535) : v.toUInt32.toUInt16.toUInt32.toInt32 = v := by
  have h := c_i2c v
  apply own_i32
  omega
theorem own_narC {v : Int32} {lo hi : Int} (h1 : lo ≤ v.toInt) (h2 : v.toInt ≤ hi) (h3 : 0 ≤ lo) (h4 : hi ≤ 65535) : nar .char v = v := own_i2c h1 h2 h3 h4
theorem own_ch {v : Int32} {lo hi : Int} (h1 : lo ≤ v.toInt) (h2 : v.toInt ≤ hi) (h3 : 0 ≤ lo) (h4 : hi ≤ 255) : ¬ v < 0 ∧ ¬ (255 : Int32) < v := ⟨own_r2 h1 h3, own_r4 h2 h4⟩
theorem own_rem {x y : Int32} {d : Int} (hy : y.toInt = d + 1) (hd : 0 < d + 1) (hx : 0 ≤ x.toInt) : 0 ≤ (x % y).toInt ∧ (x % y).toInt ≤ d := by
  have h := (c_irem x y (d + 1) hy).1 hx
  rw [h]
  have := Int.emod_nonneg x.toInt (show d + 1 ≠ 0 by omega)
  have := Int.emod_lt_of_pos x.toInt hd
  omega
theorem own_ne {a b : Addr} {h : Heap} (h1 : a < h.size) (h2 : b = h.size) : a ≠ b := fun q => by subst q; subst h2; exact Nat.lt_irrefl _ h1
theorem own_ge {Z : State} {n0 : Nat} {h : Heap} {a : Addr} (O : Old Z n0 h) (g : a = h.size) : n0 ≤ a := by rw [g, ← O.1]; exact O.2.1
theorem own_szO {Z : State} {n0 : Nat} {h : Heap} (O : Old Z n0 h) : n0 ≤ h.size := by rw [← O.1]; exact O.2.1
theorem own_sz {h h' : Heap} {a : Addr} (q : h.size ≤ h'.size) (g : a = h'.size) : h.size ≤ a := g ▸ q
theorem own_neO {Z : State} {n0 : Nat} {h : Heap} {a b : Addr} (q : a < Z.heap.size) (O : Old Z n0 h) (r : n0 ≤ b) : a ≠ b := O.ne q r
theorem own_sta {s : State} {args : Array Value} {C n d K : String} (h : (Jvm.Cond.exactly (.static C n d) K).value args s none s [] = some true) (hi : (Jvm.Cond.initializedFor C n d).before args s = true ∨ ((Jvm.Cond.initialized C).before args s = true ∧ (Jvm.Cond.laysStatic C n d).before args s = true)) : ∃ a, (Term.static C n d).eval args s none [] s = some (.ref a) ∧ Sta s s.heap C n d (.ref a) ∧ Exa s s.heap a K := by
  obtain ⟨a, ev⟩ := exa_v h
  exact ⟨a, ev, Sta.start ev hi, Exa.start ev h⟩
theorem own_fldI {s : State} {args : Array Value} {t : Term} {C n d : String} {v : Int32} {a : Addr} (ev : t.eval args s none [] s = some (.ref a)) (h : (Jvm.Cond.eq (.field t C n d) (.int v)).value args s none s [] = some true) : Fld s s.heap a C n d (.int v) := by
  apply Fld.start
  cases hf : s.fieldOf? a C n d with
  | none => simp [Cond.value, Term.eval, ev, hf] at h
  | some x => cases x <;> simp [Cond.value, Term.eval, ev, hf] at h; subst h; rfl
theorem own_fldN {s : State} {args : Array Value} {t : Term} {C n d : String} {a : Addr} (ev : t.eval args s none [] s = some (.ref a)) (h : (Jvm.Cond.eq (.field t C n d) .null).value args s none s [] = some true) : Fld s s.heap a C n d .null := by
  apply Fld.start
  have := null_v h
  rw [fld_at ev] at this
  exact this
theorem own_fldR {s : State} {args : Array Value} {t : Term} {C n d K : String} {a : Addr} (ev : t.eval args s none [] s = some (.ref a)) (h : (Jvm.Cond.exactly (.field t C n d) K).value args s none s [] = some true) : ∃ b, (Term.field t C n d).eval args s none [] s = some (.ref b) ∧ Fld s s.heap a C n d (.ref b) ∧ Exa s s.heap b K := by
  obtain ⟨b, e2⟩ := exa_v h
  refine ⟨b, e2, Fld.start ?_, Exa.start e2 h⟩
  rw [← fld_at ev]; exact e2
section OwnWide
variable {p : Program} {l : Launch} {e : Env} {R : Room} {s : State} {m : MethodId} {args : Array Value} {below : List Frame} {meth : Method} {c : Code} {T : State} {Z : State} {own mn : String} {bytes : ByteArray} {ml n0 k n : Nat} {rt : Option FieldType} {h h' : Heap} {G : Outcome → State → Prop} {pc q : Nat} {L : Array Slot} {st rest : List Value} {a0 : Array Value} {EL : List (String × Nat)} {vm : Vm}
def FinW (Z : State) (EL : List (String × Nat)) (Q : Option Value → Heap → Prop) (s : State) (n0 k n : Nat) (o : Outcome) (U : State) : Prop := ∃ v L, o = .returned v ∧ (Fr n0 L ∧ Q v U.heap) ∧ CHr Z EL s.vm s.heap U.vm U.heap ∧ ReturnedEndW s o U L k n
def MetW (l : Launch) (Z : State) (EL : List (String × Nat)) (y : MethodName) (bytes : ByteArray) (ml : Nat) (rt : Option FieldType) (rm : Room) (as' : Array Value) (h0 : Heap) (n0 : Nat) (Q : Option Value → Heap → Prop) : Prop :=
  ∀ ws : List Jvm.Cond, MetFree l y (head1 (Jvm.Cond.code y bytes ml rt :: ws) rm) (fun a U => a = as' ∧ Z.Warmed39 U.vm ∧ U.heap = h0 ∧ CHv Z EL U.vm h0) (fun _ _ _ _ _ => True) (fun _ U o U' => ∃ v L, o = .returned v ∧ (Fr n0 L ∧ Q v U'.heap) ∧ CHr Z EL U.vm U.heap U'.vm U'.heap ∧ ReturnedEndW U o U' L rm.cells rm.slots)
abbrev MetW1 (l : Launch) (Z : State) (EL : List (String × Nat)) (y : MethodName) (bytes : ByteArray) (ml : Nat) (rt : Option FieldType) (rm : Room) (as' : Array Value) (h0 : Heap) (n0 : Nat) (Q : Value → Heap → Prop) : Prop := MetW l Z EL y bytes ml rt rm as' h0 n0 (fun v h => ∃ w, v = some w ∧ Q w h)
abbrev MetW0 (l : Launch) (Z : State) (EL : List (String × Nat)) (y : MethodName) (bytes : ByteArray) (ml : Nat) (rt : Option FieldType) (rm : Room) (as' : Array Value) (h0 : Heap) (n0 : Nat) (Q : Heap → Prop) : Prop := MetW l Z EL y bytes ml rt rm as' h0 n0 (fun v h => v = none ∧ Q h)
/-- what a wide walk bears besides: its tables come of the start's, and what they book is said -/
def Wx (Z : State) (EL : List (String × Nat)) (s : State) (vm : Vm) (h : Heap) : Prop := (∃ k0, s.Since vm k0 ∧ k0 ≤ h.size) ∧ CHr Z EL s.vm s.heap vm h
theorem Wx.ext (Y : Wx Z EL s vm h) (E : Ext h h') : Wx Z EL s vm h' := by
  obtain ⟨⟨k0, h1, h2⟩, h3⟩ := Y
  exact ⟨⟨k0, h1, Nat.le_trans h2 E.1⟩, h3.trans (CHr.ext E h3.1)⟩
theorem Wx.wr (Y : Wx Z EL s vm h) {a : Addr} {sl : Nat} {v : Value} (W : Wr h h' a sl v) (S : Safe Z EL vm h a) : Wx Z EL s vm h' := by
  obtain ⟨⟨k0, h1, h2⟩, h3⟩ := Y
  exact ⟨⟨k0, h1, by rw [W.size]; exact h2⟩, h3.trans (CHr.wr W S h3.1)⟩
theorem Wx.keep (Y : Wx Z EL s vm h) {ws : List Addr} (K : Keep h h' ws) (S : ∀ x ∈ ws, Safe Z EL vm h x) : Wx Z EL s vm h' := by
  obtain ⟨⟨k0, h1, h2⟩, h3⟩ := Y
  exact ⟨⟨k0, h1, Nat.le_trans h2 K.1⟩, h3.trans (CHr.keep K S h3.1)⟩
theorem Wx.safe0 (Y : Wx Z EL s vm h) {x : Addr} (hx : h.size ≤ x) : Safe Z EL vm h x := Safe.new hx
theorem Wx.safeE (Y : Wx Z EL s vm h) {x : Addr} (S : Safe Z EL vm h x) (E : Ext h h') : Safe Z EL vm h' x := Safe.ext E Y.2.1 S
theorem Wx.safeW (Y : Wx Z EL s vm h) {a x : Addr} {sl : Nat} {v : Value} (S : Safe Z EL vm h x) (W : Wr h h' a sl v) (Sa : Safe Z EL vm h a) : Safe Z EL vm h' x := Safe.wr W Sa Y.2.1 S
theorem Wx.safeK (Y : Wx Z EL s vm h) {x : Addr} {ws : List Addr} (S : Safe Z EL vm h x) (K : Keep h h' ws) (Sa : ∀ x ∈ ws, Safe Z EL vm h x) : Safe Z EL vm h' x := Safe.keep K Sa Y.2.1 S
theorem Cx.alike (C : Cx p (s.setVm vm) m meth c Z own bytes ml rt mn) : Z.vm.Alike vm := C.2.1.alike
theorem metW_of {y : MethodName} {rm : Room} {as' : Array Value} {Q : Option Value → Heap → Prop} (hp : plainFor y = true) (hef : ∀ m, entryFrame m as' ml = mkF m 0 L [])
    (body : ∀ (p : Program) (e : Env) (s : State) (m : MethodId) (below : List Frame) (meth : Method) (c : Code) (T : State) (vm : Vm), Cx p (s.setVm vm) m meth c Z y.cls bytes ml rt y.name → St p l e rm (s.setVm vm) m as' below meth c n0 T h 0 0 → Wx Z EL s vm h → Goes p e below (FinW Z EL Q s n0 rm.cells rm.slots) (T.setTop (mkF m 0 L []))) :
    MetW l Z EL y bytes ml rt rm as' h n0 Q := by
  intro ws
  refine MetFree.of_bodySF hp hisR ?_
  intro p e s m args below meth c s₁ Bd hml hP hK
  obtain ⟨rfl, hZ, hh, hCH⟩ := hP
  have e0 : s₁.heap = h := by rw [← hh, Bd.state]; rfl
  have b := body p e s m below meth c s₁ s.vm ⟨Bd.exec, hZ, findClass_of_methodNamed Bd.named, Bd.bytes, hml, Bd.returns, BodyLoose.notSynchronized Bd, (name_of_methodNamed Bd.named Bd.method).1⟩ ⟨[], 0, 0, Stand.of_body Bd, Fr.nil _, e0, Nat.le_refl _, Nat.le_refl _⟩
    ⟨⟨0, (State.WarmedH.refl s).since 0, Nat.zero_le _⟩, by rw [hh]; exact CHr.refl hCH⟩
  rw [hef m]
  exact b
theorem own_endW (C : Cx p (s.setVm vm) m meth c Z own bytes ml rt mn) (X : St p l e R (s.setVm vm) m args below meth c n0 T h k n) (Y : Wx Z EL s vm h) (hEL : EW Z a0 EL) {Q : Option Value → Heap → Prop} {K N : Nat} {S : State} {v : Option Value} (hv : rt = none → v = none) (hk : k ≤ K) (hn : n ≤ N) (hQ : Q v h)
    (f : ∀ locs cells slots fs, Stand p l e R (s.setVm vm) m args below meth c T locs cells slots → (∀ (f : JFrame) (acts : List Action), f.method = m → f.locked = none → f.entered = [] → (doReturn e (T.setTop f) acts v).1 = T.setFrames fs) → Steps p.tables e below S (T.setFrames fs)) : Goes p e below (FinW Z EL Q s n0 K N) S := by
  obtain ⟨hx, hZ, -, hby, -, hret, hlk, -⟩ := C
  obtain ⟨locs, cells, slots, X, hF, rfl, h1, h2⟩ := X
  obtain ⟨⟨k0, hS, hk0⟩, hC⟩ := Y
  have hA := CHv.at X hZ hEL hC.1
  obtain ⟨fs, hr, hrun, hended, hW, hsame⟩ := X.leave (v := v) (fun h => hv (hret.symm.trans h)) hlk
  have hS2 : s.Since (T.setFrames fs).vm T.heap.size := hS.trans (hW.since _) hk0
  refine ⟨_, _, f _ _ _ fs X hr, hrun, hended, _, _, rfl, ⟨hF, hQ⟩, hC.trans hA, ⟨_, rfl⟩, hS2.1, ?_, ?_⟩
  · intro j pp hj hp
    exact hS2.2 j pp hj hp
  · exact (hsame.setVm s.vm).mono (Nat.le_trans h1 hk) (Nat.le_trans h2 hn)
theorem gW_retI (C : Cx p (s.setVm vm) m meth c Z own bytes ml (some .int) mn) (X : St p l e R (s.setVm vm) m args below meth c n0 T h k n) (Y : Wx Z EL s vm h) (hEL : EW Z a0 EL) {Q : Option Value → Heap → Prop} {K N : Nat} {z : Int32} (hd : decode bytes pc = .ok (.ireturn, 1)) (hk : k ≤ K) (hn : n ≤ N) (hQ : Q (some (.int z)) h) : Goes p e below (FinW Z EL Q s n0 K N) (T.setTop (mkF m pc L (.int z :: st))) := by
  refine own_endW C X Y hEL (by simp) hk hn hQ fun locs cells slots fs X hr => ?_
  obtain ⟨hx, -, -, hby, -, hret, hlk, -⟩ := C
  exact retOut X hx hret rfl (Or.inl ⟨rfl, Or.inl rfl, _, rfl⟩) (hb hby hd) hr
theorem gW_retN {t : FieldType} (C : Cx p (s.setVm vm) m meth c Z own bytes ml (some t) mn) (X : St p l e R (s.setVm vm) m args below meth c n0 T h k n) (Y : Wx Z EL s vm h) (hEL : EW Z a0 EL) {Q : Option Value → Heap → Prop} {K N : Nat} {z z' : Int32} (ht : t = .boolean ∨ t = .byte ∨ t = .char ∨ t = .short) (hz : nar t z = z') (hd : decode bytes pc = .ok (.ireturn, 1)) (hk : k ≤ K) (hn : n ≤ N) (hQ : Q (some (.int z')) h) : Goes p e below (FinW Z EL Q s n0 K N) (T.setTop (mkF m pc L (.int z :: st))) := by
  subst hz
  refine own_endW C X Y hEL (by simp) hk hn hQ fun locs cells slots fs X hr => ?_
  obtain ⟨hx, -, -, hby, -, hret, hlk, -⟩ := C
  exact retN X hx hret ht (hb hby hd) hr
theorem gW_retA {t : FieldType} (C : Cx p (s.setVm vm) m meth c Z own bytes ml (some t) mn) (X : St p l e R (s.setVm vm) m args below meth c n0 T h k n) (Y : Wx Z EL s vm h) (hEL : EW Z a0 EL) {Q : Option Value → Heap → Prop} {K N : Nat} {v : Value} (ht : t.isReference = true) (hv : v.isRef = true) (hd : decode bytes pc = .ok (.areturn, 1)) (hk : k ≤ K) (hn : n ≤ N) (hQ : Q (some v) h) : Goes p e below (FinW Z EL Q s n0 K N) (T.setTop (mkF m pc L (v :: st))) := by
  refine own_endW C X Y hEL (by simp) hk hn hQ fun locs cells slots fs X hr => ?_
  obtain ⟨hx, -, -, hby, -, hret, hlk, -⟩ := C
  have hn' : narrow t v = v := by rcases ref_cases hv with rfl | ⟨b, rfl⟩ <;> cases t <;> first | rfl | (cases ht)
  exact retOut X hx hret hn' (Or.inr (Or.inr (Or.inr (Or.inr ⟨rfl, ht, hv⟩)))) (hb hby hd) hr
theorem gW_retV (C : Cx p (s.setVm vm) m meth c Z own bytes ml none mn) (X : St p l e R (s.setVm vm) m args below meth c n0 T h k n) (Y : Wx Z EL s vm h) (hEL : EW Z a0 EL) {Q : Option Value → Heap → Prop} {K N : Nat} (hd : decode bytes pc = .ok (.return_, 1)) (hk : k ≤ K) (hn : n ≤ N) (hQ : Q none h) : Goes p e below (FinW Z EL Q s n0 K N) (T.setTop (mkF m pc L [])) := by
  refine own_endW C X Y hEL (fun _ => rfl) hk hn hQ fun locs cells slots fs X hr => ?_
  obtain ⟨hx, -, -, hby, -, hret, hlk, -⟩ := C
  exact X.returnOut hx hret (hb hby hd) hr
theorem gW_ldcO (C : Cx p (s.setVm vm) m meth c Z own bytes ml rt mn) (X : St p l e R (s.setVm vm) m args below meth c n0 T h k n) (Y : Wx Z EL s vm h) (hEL : EW Z a0 EL) {text : String} {i nn k' n' : Nat} (w : (Cond.stringLink own i text).before a0 Z = true) (wS : ∀ a ∈ Bundle.stringAtoms, a.before a0 Z = true) (hd : decode bytes pc = .ok (.ldc i, 2)) (hq : pc + 2 = q) (hnn : 4 * text.toList.length ≤ nn) (hbig : nn ≤ 536870912) (hk : k + 2 = k') (hn : n + (nn + 4) = n') (hkR : k' ≤ R.cells) (hnR : n' ≤ R.slots)
    (r : ∀ a T' h' vm', Cx p (s.setVm vm') m meth c Z own bytes ml rt mn → St p l e R (s.setVm vm') m args below meth c n0 T' h' k' n' → Wx Z EL s vm' h' → Ext h h' → CHr Z EL vm h vm' h' → Goes p e below G (T'.setTop (mkF m q L (.ref a :: st)))) : Goes p e below G (T.setTop (mkF m pc L st)) := by
  obtain ⟨hx, hZ, hown, hby, hml, hret, hlk, hnm⟩ := C
  obtain ⟨locs, cells, slots, X, hF, eT, h1, h2⟩ := X
  obtain ⟨⟨k0, hS, hk0⟩, hC⟩ := Y
  subst hq hk hn
  obtain ⟨a, T', h', k1, X', e', E', hS', hk1, hZ', hown', hC', -, st'⟩ := ldcOH X hx hZ hown w wS eT hS hk0 hEL hC.1 (g := mkF m pc L st) rfl (hb hby hd) hnn hbig (Nat.le_trans (Nat.add_le_add_right h1 2) hkR) (Nat.le_trans (Nat.add_le_add_right h2 _) hnR)
  exact go_st st' (r a T' h' T'.vm ⟨hx, hZ', hown', hby, hml, hret, hlk, hnm⟩ ⟨_, _, _, X', hF, e', Nat.add_le_add_right h1 2, Nat.add_le_add_right h2 _⟩ ⟨⟨k1, hS', hk1⟩, hC.trans hC'⟩ E' hC')
theorem gW_ldcC (C : Cx p (s.setVm vm) m meth c Z own bytes ml rt mn) (X : St p l e R (s.setVm vm) m args below meth c n0 T h k n) (Y : Wx Z EL s vm h) (hEL : EW Z a0 EL) {text : String} {i nn k' n' : Nat} {vs : List Value} {z : Int32} (w : (Cond.stringLink own i text).before a0 Z = true) (wS : ∀ a ∈ Bundle.stringAtoms, a.before a0 Z = true) (hmem : (own, i) ∈ EL) (ht : (∀ c ∈ text.toList, c.toNat < 256) ∧ text.toList.map (fun c => Value.int (Jvm.Lit.byteI c.toNat.toUInt16)) = vs) (hz : ¬ z < 0) (hl : z.toNatClampNeg = vs.length) (hd : decode bytes pc = .ok (.ldc i, 2)) (hq : pc + 2 = q) (hnn : 4 * text.toList.length ≤ nn) (hbig : nn ≤ 536870912) (hk : k + 2 = k') (hn : n + (nn + 4) = n') (hkR : k' ≤ R.cells) (hnR : n' ≤ R.slots)
    (r : ∀ a b kk T' h' vm', Cx p (s.setVm vm') m meth c Z own bytes ml rt mn → St p l e R (s.setVm vm') m args below meth c n0 T' h' k' n' → Wx Z EL s vm' h' → Ext h h' → CHr Z EL vm h vm' h' → Exa Z h' a "java/lang/String" → Fld Z h' a "java/lang/String" "coder" "B" (.int 0) → Fld Z h' a "java/lang/String" "value" "[B" (.ref b) → Arv Z h' b kk .byte z vs (.int 0) → (∀ x, Safe Z EL vm' h' x → x ≠ a ∧ x ≠ b) → Goes p e below G (T'.setTop (mkF m q L (.ref a :: st)))) : Goes p e below G (T.setTop (mkF m pc L st)) := by
  obtain ⟨hx, hZ, hown, hby, hml, hret, hlk, hnm⟩ := C
  obtain ⟨locs, cells, slots, X, hF, eT, h1, h2⟩ := X
  obtain ⟨⟨k0, hS, hk0⟩, hC⟩ := Y
  subst hq hk hn
  obtain ⟨a, T', h', k1, b, kk, X', e', E', hS', hk1, hZ', hown', f1, f2, f3, f4, -, -, hC', -, hsf, st'⟩ := ldcCH X hx hZ hown w wS eT hS hk0 hEL hmem hC.1 ht hz hl (g := mkF m pc L st) rfl (hb hby hd) hnn hbig (Nat.le_trans (Nat.add_le_add_right h1 2) hkR) (Nat.le_trans (Nat.add_le_add_right h2 _) hnR)
  exact go_st st' (r a b kk T' h' T'.vm ⟨hx, hZ', hown', hby, hml, hret, hlk, hnm⟩ ⟨_, _, _, X', hF, e', Nat.add_le_add_right h1 2, Nat.add_le_add_right h2 _⟩ ⟨⟨k1, hS', hk1⟩, hC.trans hC'⟩ E' hC' f1 f2 f3 f4 hsf)
theorem gW_callS1 (C : Cx p (s.setVm vm) m meth c Z own bytes ml rt mn) (X : St p l e R (s.setVm vm) m args below meth c n0 T h k n) (Y : Wx Z EL s vm h) (hEL : EW Z a0 EL) {rm : Room} {as' : Array Value} {bts : ByteArray} {mxl : Nat} {rty : Option FieldType} {argsL : List Value} {ps : List FieldType} {rt' : Option FieldType} {k' n' W : Nat} {Q : Value → Heap → Prop} {y : MethodName} {i : Nat} (hy : y.cls ≠ "java/lang/invoke/MethodHandle" ∧ y.cls ≠ "java/lang/invoke/VarHandle") (w1 : (Cond.methodLink own i y).before a0 Z = true) (w2 : (Cond.static y).before a0 Z = true) (w8 : (Cond.code y bts mxl rty).before a0 Z = true) (w9 : (Cond.initialized y.cls).before a0 Z = true) (hM : MetW1 l Z EL y bts mxl rty rm as' h n0 Q) (hf : rm.frames + 1 ≤ R.frames) (hl : W + (mxl + 11) + rm.locals ≤ R.locals) (hk : k + rm.cells = k') (hn : n + rm.slots = n') (hkR : k' ≤ R.cells) (hnR : n' ≤ R.slots) (hsz : L.size = ml) (hdd : parseMethodDescriptor y.desc = some ⟨ps, rt'⟩) (hlen : argsL.length = ps.length) (hst : st = argsL.reverse ++ rest) (has : argsL.toArray = as') (hW : (rest.map fun v => v.category).sum = W) (hd : decode bytes pc = .ok (.invokestatic i, 3)) (hq : pc + 3 = q)
    (r : ∀ w T' h' vm', Cx p (s.setVm vm') m meth c Z own bytes ml rt mn → St p l e R (s.setVm vm') m args below meth c n0 T' h' k' n' → Wx Z EL s vm' h' → CHr Z EL vm h vm' h' → Q w h' → Goes p e below G (T'.setTop (mkF m q L (w :: rest)))) : Goes p e below G (T.setTop (mkF m pc L st)) := by
  obtain ⟨hx, hZ, hown, hby, hml, hret, hlk, hnm⟩ := C
  obtain ⟨_, cells, slots, X, hF, eT, h1, h2⟩ := X
  obtain ⟨⟨k0, hS, hk0⟩, hC⟩ := Y
  subst hq hk hn has hst hW
  have bk := backOfSH (Q := fun v h L => Fr n0 L ∧ (∃ w, v = some w ∧ Q w h)) (R := R) (p := p) (e := e) (below := below) (s := s) (args := args) (len := 3) (W := (rest.map fun v => v.category).sum) (hM []) hZ w8 w9 hf hl hEL hC.1
  obtain ⟨_, _, ⟨T', Lo, kk, nn⟩, -, X', hS', hg', ⟨Lc, hQ, q1, q2, q3, hC'⟩, st'⟩ := callSS X hx hown (mvT hZ w1) (mvT hZ w2) (mvT hZ w9) (mvT hZ w8) hy bk (g := mkF m pc L (argsL.reverse ++ rest)) rfl (hsz.trans hml.symm) (argsL := argsL) (rest := rest) (lenOf hdd hlen) rfl (by show 2 * 0 + _ ≤ _; omega) (hb hby hd) (fun _ _ => ⟨rfl, eT, Nat.le_trans (Nat.add_le_add_right h1 _) hkR, Nat.le_trans (Nat.add_le_add_right h2 _) hnR⟩)
  dsimp only [Pt.U, Pt.locs, Pt.cells, Pt.slots] at X' hS' hg' q1 q2 q3 st' hQ hC'
  subst q1 q2 q3
  obtain ⟨hFr, hQ'⟩ := hQ
  obtain ⟨w, rfl, hQ'⟩ := hQ'
  rw [eT] at hg'
  obtain ⟨X2, hS2, hZ2, hown2⟩ := rebS hS hk0 X' hS' hg' hZ hown
  exact go_tr st' (r w T' _ T'.vm ⟨hx, hZ2, hown2, hby, hml, hret, hlk, hnm⟩ ⟨_, _, _, X2, Fr.app hF hFr, rfl, Nat.add_le_add_right h1 _, Nat.add_le_add_right h2 _⟩ ⟨⟨_, hS2, Nat.le_refl _⟩, hC.trans hC'⟩ hC' hQ')
theorem gW_callS0 (C : Cx p (s.setVm vm) m meth c Z own bytes ml rt mn) (X : St p l e R (s.setVm vm) m args below meth c n0 T h k n) (Y : Wx Z EL s vm h) (hEL : EW Z a0 EL) {rm : Room} {as' : Array Value} {bts : ByteArray} {mxl : Nat} {rty : Option FieldType} {argsL : List Value} {ps : List FieldType} {rt' : Option FieldType} {k' n' W : Nat} {Q : Heap → Prop} {y : MethodName} {i : Nat} (hy : y.cls ≠ "java/lang/invoke/MethodHandle" ∧ y.cls ≠ "java/lang/invoke/VarHandle") (w1 : (Cond.methodLink own i y).before a0 Z = true) (w2 : (Cond.static y).before a0 Z = true) (w8 : (Cond.code y bts mxl rty).before a0 Z = true) (w9 : (Cond.initialized y.cls).before a0 Z = true) (hM : MetW0 l Z EL y bts mxl rty rm as' h n0 Q) (hf : rm.frames + 1 ≤ R.frames) (hl : W + (mxl + 11) + rm.locals ≤ R.locals) (hk : k + rm.cells = k') (hn : n + rm.slots = n') (hkR : k' ≤ R.cells) (hnR : n' ≤ R.slots) (hsz : L.size = ml) (hdd : parseMethodDescriptor y.desc = some ⟨ps, rt'⟩) (hlen : argsL.length = ps.length) (hst : st = argsL.reverse ++ rest) (has : argsL.toArray = as') (hW : (rest.map fun v => v.category).sum = W) (hd : decode bytes pc = .ok (.invokestatic i, 3)) (hq : pc + 3 = q)
    (r : ∀ T' h' vm', Cx p (s.setVm vm') m meth c Z own bytes ml rt mn → St p l e R (s.setVm vm') m args below meth c n0 T' h' k' n' → Wx Z EL s vm' h' → CHr Z EL vm h vm' h' → Q h' → Goes p e below G (T'.setTop (mkF m q L rest))) : Goes p e below G (T.setTop (mkF m pc L st)) := by
  obtain ⟨hx, hZ, hown, hby, hml, hret, hlk, hnm⟩ := C
  obtain ⟨_, cells, slots, X, hF, eT, h1, h2⟩ := X
  obtain ⟨⟨k0, hS, hk0⟩, hC⟩ := Y
  subst hq hk hn has hst hW
  have bk := backOfSH (Q := fun v h L => Fr n0 L ∧ (v = none ∧ Q h)) (R := R) (p := p) (e := e) (below := below) (s := s) (args := args) (len := 3) (W := (rest.map fun v => v.category).sum) (hM []) hZ w8 w9 hf hl hEL hC.1
  obtain ⟨_, _, ⟨T', Lo, kk, nn⟩, -, X', hS', hg', ⟨Lc, hQ, q1, q2, q3, hC'⟩, st'⟩ := callSS X hx hown (mvT hZ w1) (mvT hZ w2) (mvT hZ w9) (mvT hZ w8) hy bk (g := mkF m pc L (argsL.reverse ++ rest)) rfl (hsz.trans hml.symm) (argsL := argsL) (rest := rest) (lenOf hdd hlen) rfl (by show 2 * 0 + _ ≤ _; omega) (hb hby hd) (fun _ _ => ⟨rfl, eT, Nat.le_trans (Nat.add_le_add_right h1 _) hkR, Nat.le_trans (Nat.add_le_add_right h2 _) hnR⟩)
  dsimp only [Pt.U, Pt.locs, Pt.cells, Pt.slots] at X' hS' hg' q1 q2 q3 st' hQ hC'
  subst q1 q2 q3
  obtain ⟨hFr, hQ'⟩ := hQ
  obtain ⟨rfl, hQ'⟩ := hQ'
  rw [eT] at hg'
  obtain ⟨X2, hS2, hZ2, hown2⟩ := rebS hS hk0 X' hS' hg' hZ hown
  exact go_tr st' (r T' _ T'.vm ⟨hx, hZ2, hown2, hby, hml, hret, hlk, hnm⟩ ⟨_, _, _, X2, Fr.app hF hFr, rfl, Nat.add_le_add_right h1 _, Nat.add_le_add_right h2 _⟩ ⟨⟨_, hS2, Nat.le_refl _⟩, hC.trans hC'⟩ hC' hQ')
theorem gW_callI1 (C : Cx p (s.setVm vm) m meth c Z own bytes ml rt mn) (X : St p l e R (s.setVm vm) m args below meth c n0 T h k n) (Y : Wx Z EL s vm h) (hEL : EW Z a0 EL) {rm : Room} {as' : Array Value} {bts : ByteArray} {mxl : Nat} {rty : Option FieldType} {argsL : List Value} {ps : List FieldType} {rt' : Option FieldType} {k' n' W : Nat} {Q : Value → Heap → Prop} {y : MethodName} {i : Nat} {a : Addr} (hy : y.cls ≠ "java/lang/invoke/MethodHandle" ∧ y.cls ≠ "java/lang/invoke/VarHandle") (hy1 : y.name = "<init>") (hrn : rty = none) (w1 : (Cond.methodLink own i y).before a0 Z = true) (w2 : (Cond.instanceMethod y).before a0 Z = true) (w8 : (Cond.code y bts mxl rty).before a0 Z = true) (w9 : (Cond.initialized y.cls).before a0 Z = true) (hM : MetW1 l Z EL y bts mxl rty rm as' h n0 Q) (hf : rm.frames + 1 ≤ R.frames) (hl : W + (mxl + 11) + rm.locals ≤ R.locals) (hk : k + rm.cells = k') (hn : n + rm.slots = n') (hkR : k' ≤ R.cells) (hnR : n' ≤ R.slots) (hsz : L.size = ml) (hdd : parseMethodDescriptor y.desc = some ⟨ps, rt'⟩) (hlen : argsL.length = ps.length) (hst : st = argsL.reverse ++ .ref a :: rest) (has : (.ref a :: argsL).toArray = as') (hW : (rest.map fun v => v.category).sum = W) (hd : decode bytes pc = .ok (.invokespecial i, 3)) (hq : pc + 3 = q)
    (r : ∀ w T' h' vm', Cx p (s.setVm vm') m meth c Z own bytes ml rt mn → St p l e R (s.setVm vm') m args below meth c n0 T' h' k' n' → Wx Z EL s vm' h' → CHr Z EL vm h vm' h' → Q w h' → Goes p e below G (T'.setTop (mkF m q L (w :: rest)))) : Goes p e below G (T.setTop (mkF m pc L st)) := by
  obtain ⟨hx, hZ, hown, hby, hml, hret, hlk, hnm⟩ := C
  obtain ⟨_, cells, slots, X, hF, eT, h1, h2⟩ := X
  obtain ⟨⟨k0, hS, hk0⟩, hC⟩ := Y
  subst hq hk hn has hst hW
  have bk := backOfSH (Q := fun v h L => Fr n0 L ∧ (∃ w, v = some w ∧ Q w h)) (R := R) (p := p) (e := e) (below := below) (s := s) (args := args) (len := 3) (W := (rest.map fun v => v.category).sum) (hM []) hZ w8 w9 hf hl hEL hC.1
  subst hrn
  obtain ⟨_, _, ⟨T', Lo, kk, nn⟩, -, X', hS', hg', ⟨Lc, hQ, q1, q2, q3, hC'⟩, st'⟩ := X.specialBackS hx hy1 hown (mvT hZ w1) (mvT hZ w2) (mvT hZ w8) hy bk (g := mkF m pc L (argsL.reverse ++ .ref a :: rest)) rfl (hsz.trans hml.symm) (Steps.refl _) (a := a) (argsL := argsL) (rest := rest) (lenOf hdd hlen) rfl (by show 2 * 0 + _ ≤ _; omega) (hb hby hd) (fun _ _ => ⟨rfl, eT, Nat.le_trans (Nat.add_le_add_right h1 _) hkR, Nat.le_trans (Nat.add_le_add_right h2 _) hnR⟩)
  dsimp only [Pt.U, Pt.locs, Pt.cells, Pt.slots] at X' hS' hg' q1 q2 q3 st' hQ hC'
  subst q1 q2 q3
  obtain ⟨hFr, hQ'⟩ := hQ
  obtain ⟨w, rfl, hQ'⟩ := hQ'
  rw [eT] at hg'
  obtain ⟨X2, hS2, hZ2, hown2⟩ := rebS hS hk0 X' hS' hg' hZ hown
  exact go_tr st' (r w T' _ T'.vm ⟨hx, hZ2, hown2, hby, hml, hret, hlk, hnm⟩ ⟨_, _, _, X2, Fr.app hF hFr, rfl, Nat.add_le_add_right h1 _, Nat.add_le_add_right h2 _⟩ ⟨⟨_, hS2, Nat.le_refl _⟩, hC.trans hC'⟩ hC' hQ')
theorem gW_callI0 (C : Cx p (s.setVm vm) m meth c Z own bytes ml rt mn) (X : St p l e R (s.setVm vm) m args below meth c n0 T h k n) (Y : Wx Z EL s vm h) (hEL : EW Z a0 EL) {rm : Room} {as' : Array Value} {bts : ByteArray} {mxl : Nat} {rty : Option FieldType} {argsL : List Value} {ps : List FieldType} {rt' : Option FieldType} {k' n' W : Nat} {Q : Heap → Prop} {y : MethodName} {i : Nat} {a : Addr} (hy : y.cls ≠ "java/lang/invoke/MethodHandle" ∧ y.cls ≠ "java/lang/invoke/VarHandle") (hy1 : y.name = "<init>") (hrn : rty = none) (w1 : (Cond.methodLink own i y).before a0 Z = true) (w2 : (Cond.instanceMethod y).before a0 Z = true) (w8 : (Cond.code y bts mxl rty).before a0 Z = true) (w9 : (Cond.initialized y.cls).before a0 Z = true) (hM : MetW0 l Z EL y bts mxl rty rm as' h n0 Q) (hf : rm.frames + 1 ≤ R.frames) (hl : W + (mxl + 11) + rm.locals ≤ R.locals) (hk : k + rm.cells = k') (hn : n + rm.slots = n') (hkR : k' ≤ R.cells) (hnR : n' ≤ R.slots) (hsz : L.size = ml) (hdd : parseMethodDescriptor y.desc = some ⟨ps, rt'⟩) (hlen : argsL.length = ps.length) (hst : st = argsL.reverse ++ .ref a :: rest) (has : (.ref a :: argsL).toArray = as') (hW : (rest.map fun v => v.category).sum = W) (hd : decode bytes pc = .ok (.invokespecial i, 3)) (hq : pc + 3 = q)
    (r : ∀ T' h' vm', Cx p (s.setVm vm') m meth c Z own bytes ml rt mn → St p l e R (s.setVm vm') m args below meth c n0 T' h' k' n' → Wx Z EL s vm' h' → CHr Z EL vm h vm' h' → Q h' → Goes p e below G (T'.setTop (mkF m q L rest))) : Goes p e below G (T.setTop (mkF m pc L st)) := by
  obtain ⟨hx, hZ, hown, hby, hml, hret, hlk, hnm⟩ := C
  obtain ⟨_, cells, slots, X, hF, eT, h1, h2⟩ := X
  obtain ⟨⟨k0, hS, hk0⟩, hC⟩ := Y
  subst hq hk hn has hst hW
  have bk := backOfSH (Q := fun v h L => Fr n0 L ∧ (v = none ∧ Q h)) (R := R) (p := p) (e := e) (below := below) (s := s) (args := args) (len := 3) (W := (rest.map fun v => v.category).sum) (hM []) hZ w8 w9 hf hl hEL hC.1
  subst hrn
  obtain ⟨_, _, ⟨T', Lo, kk, nn⟩, -, X', hS', hg', ⟨Lc, hQ, q1, q2, q3, hC'⟩, st'⟩ := X.specialBackS hx hy1 hown (mvT hZ w1) (mvT hZ w2) (mvT hZ w8) hy bk (g := mkF m pc L (argsL.reverse ++ .ref a :: rest)) rfl (hsz.trans hml.symm) (Steps.refl _) (a := a) (argsL := argsL) (rest := rest) (lenOf hdd hlen) rfl (by show 2 * 0 + _ ≤ _; omega) (hb hby hd) (fun _ _ => ⟨rfl, eT, Nat.le_trans (Nat.add_le_add_right h1 _) hkR, Nat.le_trans (Nat.add_le_add_right h2 _) hnR⟩)
  dsimp only [Pt.U, Pt.locs, Pt.cells, Pt.slots] at X' hS' hg' q1 q2 q3 st' hQ hC'
  subst q1 q2 q3
  obtain ⟨hFr, hQ'⟩ := hQ
  obtain ⟨rfl, hQ'⟩ := hQ'
  rw [eT] at hg'
  obtain ⟨X2, hS2, hZ2, hown2⟩ := rebS hS hk0 X' hS' hg' hZ hown
  exact go_tr st' (r T' _ T'.vm ⟨hx, hZ2, hown2, hby, hml, hret, hlk, hnm⟩ ⟨_, _, _, X2, Fr.app hF hFr, rfl, Nat.add_le_add_right h1 _, Nat.add_le_add_right h2 _⟩ ⟨⟨_, hS2, Nat.le_refl _⟩, hC.trans hC'⟩ hC' hQ')
theorem gW_callV1 (C : Cx p (s.setVm vm) m meth c Z own bytes ml rt mn) (X : St p l e R (s.setVm vm) m args below meth c n0 T h k n) (Y : Wx Z EL s vm h) (hEL : EW Z a0 EL) {rm : Room} {as' : Array Value} {bts : ByteArray} {mxl : Nat} {rty : Option FieldType} {argsL : List Value} {ps : List FieldType} {rt' : Option FieldType} {k' n' W : Nat} {Q : Value → Heap → Prop} {y z : MethodName} {i : Nat} {a : Addr} {K : String} (hy : y.cls ≠ "java/lang/invoke/MethodHandle" ∧ y.cls ≠ "java/lang/invoke/VarHandle") (w1 : (Cond.methodLink own i y).before a0 Z = true) (w2 : (Cond.declares y).before a0 Z = true) (w3 : (Cond.selects K y z).before a0 Z = true) (w4 : (Cond.instanceMethod z).before a0 Z = true) (hnf : ∀ s' : State, Z.Warmed39 s'.vm → NotFace s' y) (E : Exa Z h a K) (w8 : (Cond.code z bts mxl rty).before a0 Z = true) (w9 : (Cond.initialized z.cls).before a0 Z = true) (hM : MetW1 l Z EL z bts mxl rty rm as' h n0 Q) (hf : rm.frames + 1 ≤ R.frames) (hl : W + (mxl + 11) + rm.locals ≤ R.locals) (hk : k + rm.cells = k') (hn : n + rm.slots = n') (hkR : k' ≤ R.cells) (hnR : n' ≤ R.slots) (hsz : L.size = ml) (hdd : parseMethodDescriptor y.desc = some ⟨ps, rt'⟩) (hlen : argsL.length = ps.length) (hst : st = argsL.reverse ++ .ref a :: rest) (has : (.ref a :: argsL).toArray = as') (hW : (rest.map fun v => v.category).sum = W) (hd : decode bytes pc = .ok (.invokevirtual i, 3)) (hq : pc + 3 = q)
    (r : ∀ w T' h' vm', Cx p (s.setVm vm') m meth c Z own bytes ml rt mn → St p l e R (s.setVm vm') m args below meth c n0 T' h' k' n' → Wx Z EL s vm' h' → CHr Z EL vm h vm' h' → Q w h' → Goes p e below G (T'.setTop (mkF m q L (w :: rest)))) : Goes p e below G (T.setTop (mkF m pc L st)) := by
  obtain ⟨hx, hZ, hown, hby, hml, hret, hlk, hnm⟩ := C
  obtain ⟨_, cells, slots, X, hF, eT, h1, h2⟩ := X
  obtain ⟨⟨k0, hS, hk0⟩, hC⟩ := Y
  subst hq hk hn has hst hW
  have bk := backOfSH (Q := fun v h L => Fr n0 L ∧ (∃ w, v = some w ∧ Q w h)) (R := R) (p := p) (e := e) (below := below) (s := s) (args := args) (len := 3) (W := (rest.map fun v => v.category).sum) (hM []) hZ w8 w9 hf hl hEL hC.1
  obtain ⟨cB, kB, qa, qb, qc⟩ := isOf hZ eT E
  obtain ⟨_, _, ⟨T', Lo, kk, nn⟩, -, X', hS', hg', ⟨Lc, hQ, q1, q2, q3, hC'⟩, st'⟩ := X.virtualBackS hx hown (mvT hZ w1) (mvT hZ w2) (hnf _ hZ) (mvT hZ w3) (mvT hZ w4) hy bk qa qc (g := mkF m pc L (argsL.reverse ++ .ref a :: rest)) rfl (hsz.trans hml.symm) (Steps.refl _) (argsL := argsL) (rest := rest) (lenOf hdd hlen) rfl (by show 2 * 0 + _ ≤ _; omega) (hb hby hd) (fun _ _ => ⟨rfl, eT, Nat.le_trans (Nat.add_le_add_right h1 _) hkR, Nat.le_trans (Nat.add_le_add_right h2 _) hnR⟩)
  dsimp only [Pt.U, Pt.locs, Pt.cells, Pt.slots] at X' hS' hg' q1 q2 q3 st' hQ hC'
  subst q1 q2 q3
  obtain ⟨hFr, hQ'⟩ := hQ
  obtain ⟨w, rfl, hQ'⟩ := hQ'
  rw [eT] at hg'
  obtain ⟨X2, hS2, hZ2, hown2⟩ := rebS hS hk0 X' hS' hg' hZ hown
  exact go_tr st' (r w T' _ T'.vm ⟨hx, hZ2, hown2, hby, hml, hret, hlk, hnm⟩ ⟨_, _, _, X2, Fr.app hF hFr, rfl, Nat.add_le_add_right h1 _, Nat.add_le_add_right h2 _⟩ ⟨⟨_, hS2, Nat.le_refl _⟩, hC.trans hC'⟩ hC' hQ')
theorem gW_callV0 (C : Cx p (s.setVm vm) m meth c Z own bytes ml rt mn) (X : St p l e R (s.setVm vm) m args below meth c n0 T h k n) (Y : Wx Z EL s vm h) (hEL : EW Z a0 EL) {rm : Room} {as' : Array Value} {bts : ByteArray} {mxl : Nat} {rty : Option FieldType} {argsL : List Value} {ps : List FieldType} {rt' : Option FieldType} {k' n' W : Nat} {Q : Heap → Prop} {y z : MethodName} {i : Nat} {a : Addr} {K : String} (hy : y.cls ≠ "java/lang/invoke/MethodHandle" ∧ y.cls ≠ "java/lang/invoke/VarHandle") (w1 : (Cond.methodLink own i y).before a0 Z = true) (w2 : (Cond.declares y).before a0 Z = true) (w3 : (Cond.selects K y z).before a0 Z = true) (w4 : (Cond.instanceMethod z).before a0 Z = true) (hnf : ∀ s' : State, Z.Warmed39 s'.vm → NotFace s' y) (E : Exa Z h a K) (w8 : (Cond.code z bts mxl rty).before a0 Z = true) (w9 : (Cond.initialized z.cls).before a0 Z = true) (hM : MetW0 l Z EL z bts mxl rty rm as' h n0 Q) (hf : rm.frames + 1 ≤ R.frames) (hl : W + (mxl + 11) + rm.locals ≤ R.locals) (hk : k + rm.cells = k') (hn : n + rm.slots = n') (hkR : k' ≤ R.cells) (hnR : n' ≤ R.slots) (hsz : L.size = ml) (hdd : parseMethodDescriptor y.desc = some ⟨ps, rt'⟩) (hlen : argsL.length = ps.length) (hst : st = argsL.reverse ++ .ref a :: rest) (has : (.ref a :: argsL).toArray = as') (hW : (rest.map fun v => v.category).sum = W) (hd : decode bytes pc = .ok (.invokevirtual i, 3)) (hq : pc + 3 = q)
    (r : ∀ T' h' vm', Cx p (s.setVm vm') m meth c Z own bytes ml rt mn → St p l e R (s.setVm vm') m args below meth c n0 T' h' k' n' → Wx Z EL s vm' h' → CHr Z EL vm h vm' h' → Q h' → Goes p e below G (T'.setTop (mkF m q L rest))) : Goes p e below G (T.setTop (mkF m pc L st)) := by
  obtain ⟨hx, hZ, hown, hby, hml, hret, hlk, hnm⟩ := C
  obtain ⟨_, cells, slots, X, hF, eT, h1, h2⟩ := X
  obtain ⟨⟨k0, hS, hk0⟩, hC⟩ := Y
  subst hq hk hn has hst hW
  have bk := backOfSH (Q := fun v h L => Fr n0 L ∧ (v = none ∧ Q h)) (R := R) (p := p) (e := e) (below := below) (s := s) (args := args) (len := 3) (W := (rest.map fun v => v.category).sum) (hM []) hZ w8 w9 hf hl hEL hC.1
  obtain ⟨cB, kB, qa, qb, qc⟩ := isOf hZ eT E
  obtain ⟨_, _, ⟨T', Lo, kk, nn⟩, -, X', hS', hg', ⟨Lc, hQ, q1, q2, q3, hC'⟩, st'⟩ := X.virtualBackS hx hown (mvT hZ w1) (mvT hZ w2) (hnf _ hZ) (mvT hZ w3) (mvT hZ w4) hy bk qa qc (g := mkF m pc L (argsL.reverse ++ .ref a :: rest)) rfl (hsz.trans hml.symm) (Steps.refl _) (argsL := argsL) (rest := rest) (lenOf hdd hlen) rfl (by show 2 * 0 + _ ≤ _; omega) (hb hby hd) (fun _ _ => ⟨rfl, eT, Nat.le_trans (Nat.add_le_add_right h1 _) hkR, Nat.le_trans (Nat.add_le_add_right h2 _) hnR⟩)
  dsimp only [Pt.U, Pt.locs, Pt.cells, Pt.slots] at X' hS' hg' q1 q2 q3 st' hQ hC'
  subst q1 q2 q3
  obtain ⟨hFr, hQ'⟩ := hQ
  obtain ⟨rfl, hQ'⟩ := hQ'
  rw [eT] at hg'
  obtain ⟨X2, hS2, hZ2, hown2⟩ := rebS hS hk0 X' hS' hg' hZ hown
  exact go_tr st' (r T' _ T'.vm ⟨hx, hZ2, hown2, hby, hml, hret, hlk, hnm⟩ ⟨_, _, _, X2, Fr.app hF hFr, rfl, Nat.add_le_add_right h1 _, Nat.add_le_add_right h2 _⟩ ⟨⟨_, hS2, Nat.le_refl _⟩, hC.trans hC'⟩ hC' hQ')
end OwnWide
section OwnStr
variable {p : Program} {l : Launch} {e : Env} {R : Room} {s : State} {m : MethodId} {args : Array Value} {below : List Frame} {meth : Method} {c : Code} {T : State} {Z : State} {own mn : String} {bytes : ByteArray} {ml n0 k n : Nat} {rt : Option FieldType} {h h' : Heap} {G : Outcome → State → Prop} {pc q : Nat} {L : Array Slot} {st rest : List Value} {a0 : Array Value} {x y o : Addr} {cs ds : List Int32} {sl : Nat} {v : Value} {ws : List Addr} {ty : FieldType}
/-- the String x spells cs -/
def Str (Z : State) (h : Heap) (x : Addr) (cs : List Int32) : Prop := ∃ (t : Addr) (kb : ClassId), Exa Z h x "java/lang/String" ∧ Fld Z h x "java/lang/String" "value" "[B" (.ref t) ∧ Fld Z h x "java/lang/String" "coder" "B" (.int 0) ∧ Arv Z h t kb .byte (Int32.ofNat cs.length) ((cs.map (fun c => c.toInt8.toInt32)).map Value.int) (.int 0) ∧ (∀ c ∈ cs, ¬ c < 0 ∧ ¬ (255 : Int32) < c) ∧ cs.length ≤ 4000
def Yar (Z : State) (h : Heap) (a : Addr) (ty : FieldType) : Prop := ∃ c : Cell, Arr Z h a c ty
theorem Yar.of {cA : ClassId} {z : Int32} {vs : List Value} {dv : Value} (V : Arv Z h o cA ty z vs dv) : Yar Z h o ty := by obtain ⟨c, A, -⟩ := V; exact ⟨c, A⟩
theorem Yar.ext (Y : Yar Z h o ty) (E : Ext h h') : Yar Z h' o ty := by obtain ⟨c, A⟩ := Y; exact ⟨c, A.ext E⟩
theorem Yar.wr (Y : Yar Z h o ty) (W : Wr h h' x sl v) : Yar Z h' o ty := by
  obtain ⟨c, A⟩ := Y
  by_cases q : o = x
  · subst q; exact ⟨_, A.same W⟩
  · exact ⟨_, A.other W q⟩
theorem Yar.keep (Y : Yar Z h o ty) (K : Keep h h' ws) : Yar Z h' o ty := by
  obtain ⟨c, A1, ⟨A2, kc, A3, comp, A4⟩, A5⟩ := Y
  obtain ⟨c', q1, q2, q3, -⟩ := K.2.2 _ _ A1
  exact ⟨c', q1, ⟨fun r z => A2 r (by rw [← q3]; exact z), kc, by rw [q2]; exact A3, comp, A4⟩, by rw [q3]; exact A5⟩
/-- neither a String nor a byte[] -/
def NoS (Z : State) (h : Heap) (o : Addr) : Prop := (∀ x, Exa Z h x "java/lang/String" → o ≠ x) ∧ ∀ t c, Arr Z h t c .byte → o ≠ t
theorem NoS.exa {K : String} {nn : Nat} (E : Exa Z h o K) (hK : K ≠ "java/lang/String") (wi : (Cond.instantiable K nn).before a0 Z = true) : NoS Z h o := ⟨fun x F => ne_exa E F hK, fun t c A => ne_arr E wi A⟩
theorem NoS.arr {nn : Nat} (Y : Yar Z h o ty) (ht : ty ≠ .byte) (wi : (Cond.instantiable "java/lang/String" nn).before a0 Z = true) : NoS Z h o := by
  obtain ⟨c, A⟩ := Y
  refine ⟨fun x F => Ne.symm (ne_arr F wi A), fun t c' B q => ?_⟩
  subst q
  obtain ⟨A1, ⟨-, k1, A3, comp, A4⟩, -⟩ := A
  obtain ⟨B1, ⟨-, k2, B3, comp', B4⟩, -⟩ := B
  cases A1.symm.trans B1
  cases A3.symm.trans B3
  rw [A4] at B4
  injection B4 with z1 z2
  exact ht z2
theorem Str.lt (F : Str Z h x cs) : x < h.size := by obtain ⟨t, kb, E, -⟩ := F; exact E.lt
theorem Str.exa (F : Str Z h x cs) : Exa Z h x "java/lang/String" := by obtain ⟨t, kb, E, -⟩ := F; exact E
theorem Str.rng (F : Str Z h x cs) : ∀ c ∈ cs, ¬ c < 0 ∧ ¬ (255 : Int32) < c := by obtain ⟨t, kb, -, -, -, -, r, -⟩ := F; exact r
theorem Str.ext (F : Str Z h x cs) (E : Ext h h') : Str Z h' x cs := by obtain ⟨t, kb, f1, f2, f3, f4, r⟩ := F; exact ⟨t, kb, f1.ext E, f2.ext E, f3.ext E, f4.ext E, r⟩
theorem Str.wr (F : Str Z h x cs) (W : Wr h h' o sl v) (N : NoS Z h o) : Str Z h' x cs := by
  obtain ⟨t, kb, f1, f2, f3, f4, r⟩ := F
  have n1 : x ≠ o := Ne.symm (N.1 x f1)
  have n2 : t ≠ o := by obtain ⟨c, A, -⟩ := f4; exact Ne.symm (N.2 t c A)
  exact ⟨t, kb, f1.wr W, f2.other W (Or.inl n1), f3.other W (Or.inl n1), f4.other W n2, r⟩
theorem Str.keep (F : Str Z h x cs) (K : Keep h h' ws) (N : ∀ o ∈ ws, NoS Z h o) : Str Z h' x cs := by
  obtain ⟨t, kb, f1, f2, f3, f4, r⟩ := F
  have n1 : x ∉ ws := fun q => (N x q).1 x f1 rfl
  have n2 : t ∉ ws := fun q => by obtain ⟨c, A, -⟩ := f4; exact (N t q).2 t c A rfl
  exact ⟨t, kb, f1.keep K, f2.keep K n1, f3.keep K n1, f4.keep K n2, r⟩
theorem Str.keepS {nn : Nat} (F : Str Z h x cs) (K : Keep h h' [y]) (hne : x ≠ y) (E : Exa Z h y "java/lang/String") (wi : (Cond.instantiable "java/lang/String" nn).before a0 Z = true) : Str Z h' x cs := by
  obtain ⟨t, kb, f1, f2, f3, f4, r⟩ := F
  have n1 : x ∉ [y] := ninS hne nin0
  have n2 : t ∉ [y] := ninS (by obtain ⟨c, A, -⟩ := f4; exact Ne.symm (ne_arr E wi A)) nin0
  exact ⟨t, kb, f1.keep K, f2.keep K n1, f3.keep K n1, f4.keep K n2, r⟩
theorem Str.cod (hr : ∀ c ∈ cs, ¬ c < 0 ∧ ¬ (255 : Int32) < c) : StrChars.Road.CodA cs 0 (Int32.ofNat cs.length) ((cs.map (fun c => c.toInt8.toInt32)).map Value.int) := StrChars.Road.codOf rfl fun c hc => (hr c hc).2
theorem Str.up (hr : ∀ c ∈ cs, ¬ c < 0 ∧ ¬ (255 : Int32) < c) : ∀ c ∈ cs, ¬ c < 0 ∧ ¬ (65535 : Int32) < c := fun c hc => ⟨(hr c hc).1, fun z => (hr c hc).2 (Int32.lt_trans (by decide) z)⟩
theorem g_strNew (C : Cx p s m meth c Z own bytes ml rt mn) (X : St p l e R s m args below meth c n0 T h k n) {i len k' n' W : Nat} {b : Addr} {kC : ClassId} {d v0 c0 : Value} {z N : Int32} (hwS : ∀ d ∈ StrChars.Road.words, d.before a0 Z = true) (wi : (Cond.instantiable "java/lang/String" 4).before a0 Z = true) (w1 : (Cond.methodLink own i ⟨"java/lang/String", "<init>", "([C)V"⟩).before a0 Z = true) (w2 : (Cond.instanceMethod ⟨"java/lang/String", "<init>", "([C)V"⟩).before a0 Z = true)
    (E : Exa Z h x "java/lang/String") (V : Fld Z h x "java/lang/String" "value" "[B" v0) (Cd : Fld Z h x "java/lang/String" "coder" "B" c0) (K : Arv Z h b kC .char N (cs.map Value.int) d) (S : Sta Z h "java/lang/String" "COMPACT_STRINGS" "Z" (.int z)) (hz : ¬ z = 0) (hlen : cs.length = len) (hN : N = Int32.ofNat len) (l0 : 0 < len) (l2 : len ≤ 4000) (hp : ∀ c ∈ cs, ¬ c < 0 ∧ ¬ (255 : Int32) < c) (hx0 : n0 ≤ x) (hh0 : n0 ≤ h.size)
    (hfr : 4 ≤ R.frames) (hlo : W + 65 ≤ R.locals) (hk : k + 1 = k') (hn : n + len = n') (hkR : k' ≤ R.cells) (hnR : n' ≤ R.slots) (hsz : L.size = ml) (hW : (rest.map fun v => v.category).sum = W) (hd : decode bytes pc = .ok (.invokespecial i, 3)) (hq : pc + 3 = q)
    (r : ∀ T' h', St p l e R s m args below meth c n0 T' h' k' n' → Keep h h' [x] → Str Z h' x cs → Goes p e below G (T'.setTop (mkF m q L rest))) : Goes p e below G (T.setTop (mkF m pc L (.ref b :: .ref x :: rest))) := by
  refine g_callIb C X (y := ⟨"java/lang/String", "<init>", "([C)V"⟩) (a := x) (by decide) rfl w1 w2 (hwS _ (List.mem_cons_self ..)) (StrChars.Road.backV (W := W) C.2.1 hwS (kI := 4) wi (bs := cs.map (fun c => c.toInt8.toInt32)) hx0 hh0 E V Cd K S hz hlen hN l0 l2 hp rfl hfr hlo) hk hn hkR hnR hsz (show parseMethodDescriptor "([C)V" = some ⟨[.array .char], none⟩ by decide +kernel) (argsL := [.ref b]) rfl (rest := rest) rfl rfl hW hd hq ?_
  rintro v T' h' L' hX ⟨rfl, hFr, K', E', C', t, kb, -, -, -, V', A'⟩
  subst hlen hN
  exact r T' h' (hX.resolve_right fun z => z hFr) K' ⟨t, kb, E', V', C', A', hp, l2⟩
theorem g_strLen (C : Cx p s m meth c Z own bytes ml rt mn) (X : St p l e R s m args below meth c n0 T h k n) {i W : Nat} {z : Int32} (hwL : ∀ d ∈ StrChars.Road.wordsLen, d.before a0 Z = true) (wi : (Cond.instantiable "java/lang/String" 4).before a0 Z = true) (w1 : (Cond.methodLink own i ⟨"java/lang/String", "length", "()I"⟩).before a0 Z = true) (w2 : (Cond.declares ⟨"java/lang/String", "length", "()I"⟩).before a0 Z = true) (w3 : (Cond.selects "java/lang/String" ⟨"java/lang/String", "length", "()I"⟩ ⟨"java/lang/String", "length", "()I"⟩).before a0 Z = true) (w4 : (Cond.instanceMethod ⟨"java/lang/String", "length", "()I"⟩).before a0 Z = true)
    (F : Str Z h x cs) (S : Sta Z h "java/lang/String" "COMPACT_STRINGS" "Z" (.int z)) (hz : ¬ z = 0) (hfr : 2 ≤ R.frames) (hlo : W + 25 ≤ R.locals) (hkR : k ≤ R.cells) (hnR : n ≤ R.slots) (hsz : L.size = ml) (hW : (rest.map fun v => v.category).sum = W) (hd : decode bytes pc = .ok (.invokevirtual i, 3)) (hq : pc + 3 = q)
    (r : ∀ T', St p l e R s m args below meth c n0 T' h k n → Goes p e below G (T'.setTop (mkF m q L (.int (Int32.ofNat cs.length) :: rest)))) : Goes p e below G (T.setTop (mkF m pc L (.ref x :: rest))) := by
  obtain ⟨t, kb, E, V, Cd, K, hr, l2⟩ := F
  refine g_callVb C X (QL := fun v h' L => v = some (.int (Int32.ofNat cs.length)) ∧ L = [] ∧ h' = h) (kc := 0) (ks := 0) (y := ⟨"java/lang/String", "length", "()I"⟩) (z := ⟨"java/lang/String", "length", "()I"⟩) (a := x) (by decide) w1 w2 w3 w4 (nf_sel w3) E (StrChars.Road.lenW (W := W) C.2.1 hwL (kI := 4) wi E V Cd K (Str.cod hr) (Str.up hr) S hz l2 hfr hlo) (k' := k) rfl (n' := n) rfl hkR hnR hsz (show parseMethodDescriptor "()I" = some ⟨[], some .int⟩ by decide +kernel) (argsL := []) rfl (rest := rest) rfl rfl hW hd hq ?_
  rintro v T' h' L' hX ⟨rfl, rfl, rfl⟩
  exact r T' (hX.resolve_right fun z => z (Fr.nil _))
theorem g_strChr (C : Cx p s m meth c Z own bytes ml rt mn) (X : St p l e R s m args below meth c n0 T h k n) {i W ix : Nat} {z j w : Int32} {fm : Value} (hwC : ∀ d ∈ StrChars.Road.wordsChN, d.before a0 Z = true) (wi : (Cond.instantiable "java/lang/String" 4).before a0 Z = true) (w1 : (Cond.methodLink own i ⟨"java/lang/String", "charAt", "(I)C"⟩).before a0 Z = true) (w2 : (Cond.declares ⟨"java/lang/String", "charAt", "(I)C"⟩).before a0 Z = true) (w3 : (Cond.selects "java/lang/String" ⟨"java/lang/String", "charAt", "(I)C"⟩ ⟨"java/lang/String", "charAt", "(I)C"⟩).before a0 Z = true) (w4 : (Cond.instanceMethod ⟨"java/lang/String", "charAt", "(I)C"⟩).before a0 Z = true)
    (F : Str Z h x cs) (S : Sta Z h "java/lang/String" "COMPACT_STRINGS" "Z" (.int z)) (hz : ¬ z = 0) (Fm : Sta Z h "jdk/internal/util/Preconditions" "SIOOBE_FORMATTER" "Ljava/util/function/BiFunction;" fm) (rf : fm.isRef = true) (hi : ix < cs.length) (hj : j = Int32.ofNat ix) (hw' : cs.getD ix 0 = w) (hfr : 4 ≤ R.frames) (hlo : W + 53 ≤ R.locals) (hkR : k ≤ R.cells) (hnR : n ≤ R.slots) (hsz : L.size = ml) (hW : (rest.map fun v => v.category).sum = W) (hd : decode bytes pc = .ok (.invokevirtual i, 3)) (hq : pc + 3 = q)
    (r : ∀ T', St p l e R s m args below meth c n0 T' h k n → Goes p e below G (T'.setTop (mkF m q L (.int w :: rest)))) : Goes p e below G (T.setTop (mkF m pc L (.int j :: .ref x :: rest))) := by
  obtain ⟨t, kb, E, V, Cd, K, hr, l2⟩ := F
  refine g_callVb C X (QL := fun v h' L => v = some (.int (cs.getD ix 0)) ∧ L = [] ∧ h' = h) (kc := 0) (ks := 0) (y := ⟨"java/lang/String", "charAt", "(I)C"⟩) (z := ⟨"java/lang/String", "charAt", "(I)C"⟩) (a := x) (by decide) w1 w2 w3 w4 (nf_sel w3) E (StrChars.Road.chN (W := W) C.2.1 hwC (kI := 4) wi E V Cd K (Str.cod hr) (Str.up hr) S hz Fm rf l2 hi hj hfr hlo) (k' := k) rfl (n' := n) rfl hkR hnR hsz (show parseMethodDescriptor "(I)C" = some ⟨[.int], some .char⟩ by decide +kernel) (argsL := [.int j]) rfl (rest := rest) rfl rfl hW hd hq ?_
  rintro v T' h' L' hX ⟨rfl, rfl, rfl⟩
  subst hw'
  exact r T' (hX.resolve_right fun z => z (Fr.nil _))
end OwnStr
theorem own_safeY {Z : State} {EL : List (String × Nat)} {vm : Vm} {h : Heap} {o : Addr} {ty : FieldType} (hal : Z.vm.Alike vm) (Y : Yar Z h o ty) (ht : ty ≠ .byte) : Safe Z EL vm h o := by obtain ⟨c, A⟩ := Y; exact Safe.arr hal A ht
theorem own_safeN {Z : State} {EL : List (String × Nat)} {vm : Vm} {h : Heap} {x : Addr} (hal : Z.vm.Alike vm) (E : Exa Z h x "java/lang/String") (F : Fld Z h x "java/lang/String" "value" "[B" .null) : Safe Z EL vm h x := fun B => by
  obtain ⟨p, -, u, a, -, q, -, G, rfl | rfl⟩ := B
  · obtain ⟨cell, cf, k, i, f, h1, h2, h3, h4, h5, h6, h7⟩ := F
    cases (show h[q.sa]? = some q.sC from G.ha).symm.trans h1
    obtain ⟨cS, ⟨⟨-, -, -, ⟨c1, k1, i1, f1, -⟩, -, -, -, v1, -⟩, -⟩, -⟩ := G
    obtain ⟨k3, e3, -⟩ := State.fieldFound?_setVm (s := Z) hal h2
    have e4 := (show (Wst Z vm h).fieldFound? _ _ _ = _ from e3).symm.trans f1
    simp only [Option.some.injEq, Prod.mk.injEq] at e4
    rw [← e4.2.2.2, h7] at v1
    simp at v1
  · obtain ⟨cell, k, e1, e2, e3, -, -⟩ := E
    cases (show h[q.sd]? = some q.SA from G.hd).symm.trans e1
    obtain ⟨cS, -, -, f, -⟩ := G
    have f' : Z.vm.findClass "[B" = some q.SA.cls := by rw [← hal.findClass]; exact f
    obtain ⟨k1, q1, q2⟩ := Vm.findClass_spec f'
    obtain ⟨k2, q3, q4⟩ := Vm.findClass_spec e2
    cases q1.symm.trans q3
    exact absurd (q2.symm.trans q4) (by decide)
def Wd (Z : State) (cz : Int32) (fm : Value) : Prop := Sta Z Z.heap "java/lang/String" "COMPACT_STRINGS" "Z" (.int cz) ∧ ¬ cz = 0 ∧ Sta Z Z.heap "jdk/internal/util/Preconditions" "SIOOBE_FORMATTER" "Ljava/util/function/BiFunction;" fm ∧ fm.isRef = true
theorem own_words {Z : State} {a0 : Array Value} (hw : ∀ d ∈ tables_1, d.before a0 Z = true) : ∀ d ∈ StrChars.Road.words, d.before a0 Z = true := fun d hd => hw d ((by decide +kernel : ∀ d ∈ StrChars.Road.words, d ∈ tables_1) d hd)
theorem own_wordsLen {Z : State} {a0 : Array Value} (hw : ∀ d ∈ tables_1, d.before a0 Z = true) : ∀ d ∈ StrChars.Road.wordsLen, d.before a0 Z = true := fun d hd => hw d ((by decide +kernel : ∀ d ∈ StrChars.Road.wordsLen, d ∈ tables_1) d hd)
theorem own_wordsChN {Z : State} {a0 : Array Value} (hw : ∀ d ∈ tables_1, d.before a0 Z = true) : ∀ d ∈ StrChars.Road.wordsChN, d.before a0 Z = true := fun d hd => hw d ((by decide +kernel : ∀ d ∈ StrChars.Road.wordsChN, d ∈ tables_1) d hd)

theorem d1_0 : decode method_2_code 0 = .ok (.iload_n 0, 1) := by decide +kernel
theorem d1_1 : decode method_2_code 1 = .ok (.ifCond .ne 5, 3) := by decide +kernel
theorem d1_4 : decode method_2_code 4 = .ok (.aconst_null, 1) := by decide +kernel
theorem d1_5 : decode method_2_code 5 = .ok (.areturn, 1) := by decide +kernel
theorem d1_6 : decode method_2_code 6 = .ok (.iload_n 0, 1) := by decide +kernel
theorem d1_7 : decode method_2_code 7 = .ok (.iconst 1, 1) := by decide +kernel
theorem d1_8 : decode method_2_code 8 = .ok (.if_icmp .ne 14, 3) := by decide +kernel
theorem d1_11 : decode method_2_code 11 = .ok (.new 7, 3) := by decide +kernel
theorem w31 {Z : State} {a0 : Array Value} (hw : ∀ d ∈ tables_1, d.before a0 Z = true) : (Jvm.Cond.classLink "com/example/jetway/jetway/ValidatorsStatesVersionPinLaw" (7 : Nat) "java/lang/String").before a0 Z = true := hw _ (List.mem_of_getElem? (i := 31) rfl)
theorem w32 {Z : State} {a0 : Array Value} (hw : ∀ d ∈ tables_1, d.before a0 Z = true) : (Jvm.Cond.instantiable "java/lang/String" (4 : Nat)).before a0 Z = true := hw _ (List.mem_of_getElem? (i := 32) rfl)
theorem w33 {Z : State} {a0 : Array Value} (hw : ∀ d ∈ tables_1, d.before a0 Z = true) : (Jvm.Cond.initialized "java/lang/String").before a0 Z = true := hw _ (List.mem_of_getElem? (i := 33) rfl)
theorem w56 {Z : State} {a0 : Array Value} (hw : ∀ d ∈ tables_1, d.before a0 Z = true) : (Jvm.Cond.laysFinal "java/lang/String" "java/lang/String" "coder" "B").before a0 Z = true := hw _ (List.mem_of_getElem? (i := 56) rfl)
theorem w58 {Z : State} {a0 : Array Value} (hw : ∀ d ∈ tables_1, d.before a0 Z = true) : (Jvm.Cond.laysFinal "java/lang/String" "java/lang/String" "value" "[B").before a0 Z = true := hw _ (List.mem_of_getElem? (i := 58) rfl)
theorem d1_14 : decode method_2_code 14 = .ok (.dup, 1) := by decide +kernel
theorem d1_15 : decode method_2_code 15 = .ok (.iconst 0, 1) := by decide +kernel
theorem d1_16 : decode method_2_code 16 = .ok (.newarray .char, 2) := by decide +kernel
theorem w34 {Z : State} {a0 : Array Value} (hw : ∀ d ∈ tables_1, d.before a0 Z = true) : (Jvm.Cond.arrayClass Jvm.ClassFile.FieldType.char).before a0 Z = true := hw _ (List.mem_of_getElem? (i := 34) rfl)
theorem d1_18 : decode method_2_code 18 = .ok (.invokespecial 9, 3) := by decide +kernel
theorem w35 {Z : State} {a0 : Array Value} (hw : ∀ d ∈ tables_1, d.before a0 Z = true) : (Jvm.Cond.methodLink "com/example/jetway/jetway/ValidatorsStatesVersionPinLaw" (9 : Nat) ({ cls := "java/lang/String", name := "<init>", desc := "([C)V" } : Jvm.MethodName)).before a0 Z = true := hw _ (List.mem_of_getElem? (i := 35) rfl)
theorem d6_0 : decode jdk_42_method_3_code 0 = .ok (.aload_n 0, 1) := by decide +kernel
theorem d6_1 : decode jdk_42_method_3_code 1 = .ok (.aload_n 1, 1) := by decide +kernel
theorem d6_2 : decode jdk_42_method_3_code 2 = .ok (.iconst 0, 1) := by decide +kernel
theorem d6_3 : decode jdk_42_method_3_code 3 = .ok (.aload_n 1, 1) := by decide +kernel
theorem d6_4 : decode jdk_42_method_3_code 4 = .ok (.arraylength, 1) := by decide +kernel
theorem d6_5 : decode jdk_42_method_3_code 5 = .ok (.aconst_null, 1) := by decide +kernel
theorem d6_6 : decode jdk_42_method_3_code 6 = .ok (.invokespecial 27, 3) := by decide +kernel
theorem w38 {Z : State} {a0 : Array Value} (hw : ∀ d ∈ tables_1, d.before a0 Z = true) : (Jvm.Cond.methodLink "java/lang/String" (27 : Nat) ({ cls := "java/lang/String", name := "<init>", desc := "([CIILjava/lang/Void;)V" } : Jvm.MethodName)).before a0 Z = true := hw _ (List.mem_of_getElem? (i := 38) rfl)
theorem d7_0 : decode jdk_42_method_149_code 0 = .ok (.aload_n 0, 1) := by decide +kernel
theorem d7_1 : decode jdk_42_method_149_code 1 = .ok (.invokespecial 1, 3) := by decide +kernel
theorem w42 {Z : State} {a0 : Array Value} (hw : ∀ d ∈ tables_1, d.before a0 Z = true) : (Jvm.Cond.methodLink "java/lang/String" (1 : Nat) ({ cls := "java/lang/Object", name := "<init>", desc := "()V" } : Jvm.MethodName)).before a0 Z = true := hw _ (List.mem_of_getElem? (i := 42) rfl)
theorem w16 {Z : State} {a0 : Array Value} (hw : ∀ d ∈ tables_1, d.before a0 Z = true) : (Jvm.Cond.instanceMethod ({ cls := "java/lang/Object", name := "<init>", desc := "()V" } : Jvm.MethodName)).before a0 Z = true := hw _ (List.mem_of_getElem? (i := 16) rfl)
theorem w17 {Z : State} {a0 : Array Value} (hw : ∀ d ∈ tables_1, d.before a0 Z = true) : (Jvm.Cond.code ({ cls := "java/lang/Object", name := "<init>", desc := "()V" } : Jvm.MethodName) object_method_1_code (1 : Nat) (Option.none : Option Jvm.ClassFile.FieldType)).before a0 Z = true := hw _ (List.mem_of_getElem? (i := 17) rfl)
theorem d7_4 : decode jdk_42_method_149_code 4 = .ok (.iload_n 3, 1) := by decide +kernel
theorem d7_5 : decode jdk_42_method_149_code 5 = .ok (.ifCond .ne 22, 3) := by decide +kernel
theorem d7_8 : decode jdk_42_method_149_code 8 = .ok (.aload_n 0, 1) := by decide +kernel
theorem d7_9 : decode jdk_42_method_149_code 9 = .ok (.ldc 7, 2) := by decide +kernel
theorem w109 {Z : State} {a0 : Array Value} (hw : ∀ d ∈ tables_1, d.before a0 Z = true) : (Jvm.Cond.stringLink "java/lang/String" (7 : Nat) "").before a0 Z = true := hw _ (List.mem_of_getElem? (i := 109) rfl)
theorem d7_11 : decode jdk_42_method_149_code 11 = .ok (.getfield 9, 3) := by decide +kernel
theorem w57 {Z : State} {a0 : Array Value} (hw : ∀ d ∈ tables_1, d.before a0 Z = true) : (Jvm.Cond.fieldLink "java/lang/String" (9 : Nat) "java/lang/String" "value" "[B").before a0 Z = true := hw _ (List.mem_of_getElem? (i := 57) rfl)
theorem d7_14 : decode jdk_42_method_149_code 14 = .ok (.putfield 9, 3) := by decide +kernel
theorem d7_17 : decode jdk_42_method_149_code 17 = .ok (.aload_n 0, 1) := by decide +kernel
theorem d7_18 : decode jdk_42_method_149_code 18 = .ok (.ldc 7, 2) := by decide +kernel
theorem d7_20 : decode jdk_42_method_149_code 20 = .ok (.getfield 15, 3) := by decide +kernel
theorem w55 {Z : State} {a0 : Array Value} (hw : ∀ d ∈ tables_1, d.before a0 Z = true) : (Jvm.Cond.fieldLink "java/lang/String" (15 : Nat) "java/lang/String" "coder" "B").before a0 Z = true := hw _ (List.mem_of_getElem? (i := 55) rfl)
theorem d7_23 : decode jdk_42_method_149_code 23 = .ok (.putfield 15, 3) := by decide +kernel
theorem d7_26 : decode jdk_42_method_149_code 26 = .ok (.return_, 1) := by decide +kernel
theorem pn_32 : plainName "java/lang/String" = true := by first | (simp [plainName, overriddenIn]; done) | decide +kernel
theorem w41 {Z : State} {a0 : Array Value} (hw : ∀ d ∈ tables_1, d.before a0 Z = true) : (Jvm.Cond.code ({ cls := "java/lang/String", name := "<init>", desc := "([CIILjava/lang/Void;)V" } : Jvm.MethodName) jdk_42_method_149_code (6 : Nat) (Option.none : Option Jvm.ClassFile.FieldType)).before a0 Z = true := hw _ (List.mem_of_getElem? (i := 41) rfl)
theorem pd_33 : parseMethodDescriptor "([CIILjava/lang/Void;)V" = some ⟨[(.array .char), .int, .int, (.object "java/lang/Void")], none⟩ := by decide +kernel
theorem w39 {Z : State} {a0 : Array Value} (hw : ∀ d ∈ tables_1, d.before a0 Z = true) : (Jvm.Cond.instanceMethod ({ cls := "java/lang/String", name := "<init>", desc := "([CIILjava/lang/Void;)V" } : Jvm.MethodName)).before a0 Z = true := hw _ (List.mem_of_getElem? (i := 39) rfl)
theorem d6_9 : decode jdk_42_method_3_code 9 = .ok (.return_, 1) := by decide +kernel
theorem w37 {Z : State} {a0 : Array Value} (hw : ∀ d ∈ tables_1, d.before a0 Z = true) : (Jvm.Cond.code ({ cls := "java/lang/String", name := "<init>", desc := "([C)V" } : Jvm.MethodName) jdk_42_method_3_code (2 : Nat) (Option.none : Option Jvm.ClassFile.FieldType)).before a0 Z = true := hw _ (List.mem_of_getElem? (i := 37) rfl)
theorem pd_35 : parseMethodDescriptor "([C)V" = some ⟨[(.array .char)], none⟩ := by decide +kernel
theorem w36 {Z : State} {a0 : Array Value} (hw : ∀ d ∈ tables_1, d.before a0 Z = true) : (Jvm.Cond.instanceMethod ({ cls := "java/lang/String", name := "<init>", desc := "([C)V" } : Jvm.MethodName)).before a0 Z = true := hw _ (List.mem_of_getElem? (i := 36) rfl)
theorem d1_21 : decode method_2_code 21 = .ok (.areturn, 1) := by decide +kernel
theorem d1_22 : decode method_2_code 22 = .ok (.iload_n 0, 1) := by decide +kernel
theorem d1_23 : decode method_2_code 23 = .ok (.iconst 2, 1) := by decide +kernel
theorem d1_24 : decode method_2_code 24 = .ok (.if_icmp .ne 22, 3) := by decide +kernel
theorem d1_27 : decode method_2_code 27 = .ok (.new 7, 3) := by decide +kernel
theorem d1_30 : decode method_2_code 30 = .ok (.dup, 1) := by decide +kernel
theorem d1_31 : decode method_2_code 31 = .ok (.iconst 2, 1) := by decide +kernel
theorem d1_32 : decode method_2_code 32 = .ok (.newarray .char, 2) := by decide +kernel
theorem d1_34 : decode method_2_code 34 = .ok (.dup, 1) := by decide +kernel
theorem d1_35 : decode method_2_code 35 = .ok (.iconst 0, 1) := by decide +kernel
theorem d1_36 : decode method_2_code 36 = .ok (.iload_n 1, 1) := by decide +kernel
theorem d1_37 : decode method_2_code 37 = .ok (.castore, 1) := by decide +kernel
theorem d1_38 : decode method_2_code 38 = .ok (.dup, 1) := by decide +kernel
theorem d1_39 : decode method_2_code 39 = .ok (.iconst 1, 1) := by decide +kernel
theorem d1_40 : decode method_2_code 40 = .ok (.iload_n 2, 1) := by decide +kernel
theorem d1_41 : decode method_2_code 41 = .ok (.castore, 1) := by decide +kernel
theorem d1_42 : decode method_2_code 42 = .ok (.invokespecial 9, 3) := by decide +kernel
theorem d1_45 : decode method_2_code 45 = .ok (.areturn, 1) := by decide +kernel
theorem d1_46 : decode method_2_code 46 = .ok (.new 7, 3) := by decide +kernel
theorem d1_49 : decode method_2_code 49 = .ok (.dup, 1) := by decide +kernel
theorem d1_50 : decode method_2_code 50 = .ok (.iconst 3, 1) := by decide +kernel
theorem d1_51 : decode method_2_code 51 = .ok (.newarray .char, 2) := by decide +kernel
theorem d1_53 : decode method_2_code 53 = .ok (.dup, 1) := by decide +kernel
theorem d1_54 : decode method_2_code 54 = .ok (.iconst 0, 1) := by decide +kernel
theorem d1_55 : decode method_2_code 55 = .ok (.iload_n 1, 1) := by decide +kernel
theorem d1_56 : decode method_2_code 56 = .ok (.castore, 1) := by decide +kernel
theorem d1_57 : decode method_2_code 57 = .ok (.dup, 1) := by decide +kernel
theorem d1_58 : decode method_2_code 58 = .ok (.iconst 1, 1) := by decide +kernel
theorem d1_59 : decode method_2_code 59 = .ok (.iload_n 2, 1) := by decide +kernel
theorem d1_60 : decode method_2_code 60 = .ok (.castore, 1) := by decide +kernel
theorem d1_61 : decode method_2_code 61 = .ok (.dup, 1) := by decide +kernel
theorem d1_62 : decode method_2_code 62 = .ok (.iconst 2, 1) := by decide +kernel
theorem d1_63 : decode method_2_code 63 = .ok (.iload_n 3, 1) := by decide +kernel
theorem d1_64 : decode method_2_code 64 = .ok (.castore, 1) := by decide +kernel
theorem d1_65 : decode method_2_code 65 = .ok (.invokespecial 9, 3) := by decide +kernel
theorem d1_68 : decode method_2_code 68 = .ok (.areturn, 1) := by decide +kernel
theorem pn_72 : plainName "com/example/jetway/jetway/ValidatorsStatesVersionPinLaw" = true := by first | (simp [plainName, overriddenIn]; done) | decide +kernel
theorem w0 {Z : State} {a0 : Array Value} (hw : ∀ d ∈ tables_1, d.before a0 Z = true) : (Jvm.Cond.methodLink "com/example/jetway/jetway/ValidatorsStatesVersionPinLaw" (12 : Nat) ({ cls := "com/example/jetway/jetway/ValidatorsStatesVersionPinLaw", name := "pick", desc := "(ICCC)Ljava/lang/String;" } : Jvm.MethodName)).before a0 Z = true := hw _ (List.mem_of_getElem? (i := 0) rfl)
theorem w3 {Z : State} {a0 : Array Value} (hw : ∀ d ∈ tables_1, d.before a0 Z = true) : (Jvm.Cond.code ({ cls := "com/example/jetway/jetway/ValidatorsStatesVersionPinLaw", name := "pick", desc := "(ICCC)Ljava/lang/String;" } : Jvm.MethodName) method_2_code (4 : Nat) (Option.some (Jvm.ClassFile.FieldType.object "java/lang/String"))).before a0 Z = true := hw _ (List.mem_of_getElem? (i := 3) rfl)
theorem w2 {Z : State} {a0 : Array Value} (hw : ∀ d ∈ tables_1, d.before a0 Z = true) : (Jvm.Cond.initialized "com/example/jetway/jetway/ValidatorsStatesVersionPinLaw").before a0 Z = true := hw _ (List.mem_of_getElem? (i := 2) rfl)
theorem pd_73 : parseMethodDescriptor "(ICCC)Ljava/lang/String;" = some ⟨[.int, .char, .char, .char], some (.object "java/lang/String")⟩ := by decide +kernel
theorem w1 {Z : State} {a0 : Array Value} (hw : ∀ d ∈ tables_1, d.before a0 Z = true) : (Jvm.Cond.static ({ cls := "com/example/jetway/jetway/ValidatorsStatesVersionPinLaw", name := "pick", desc := "(ICCC)Ljava/lang/String;" } : Jvm.MethodName)).before a0 Z = true := hw _ (List.mem_of_getElem? (i := 1) rfl)
theorem w4 {Z : State} {a0 : Array Value} (hw : ∀ d ∈ tables_1, d.before a0 Z = true) : (Jvm.Cond.classLink "com/example/jetway/jetway/ValidatorsStatesVersionPinLaw" (18 : Nat) "com/example/jetway/jetway/Fetcher$Validators").before a0 Z = true := hw _ (List.mem_of_getElem? (i := 4) rfl)
theorem w5 {Z : State} {a0 : Array Value} (hw : ∀ d ∈ tables_1, d.before a0 Z = true) : (Jvm.Cond.instantiable "com/example/jetway/jetway/Fetcher$Validators" (4 : Nat)).before a0 Z = true := hw _ (List.mem_of_getElem? (i := 5) rfl)
theorem w6 {Z : State} {a0 : Array Value} (hw : ∀ d ∈ tables_1, d.before a0 Z = true) : (Jvm.Cond.initialized "com/example/jetway/jetway/Fetcher$Validators").before a0 Z = true := hw _ (List.mem_of_getElem? (i := 6) rfl)
theorem w19 {Z : State} {a0 : Array Value} (hw : ∀ d ∈ tables_1, d.before a0 Z = true) : (Jvm.Cond.laysFinal "com/example/jetway/jetway/Fetcher$Validators" "com/example/jetway/jetway/Fetcher$Validators" "lastModified" "Ljava/lang/String;").before a0 Z = true := hw _ (List.mem_of_getElem? (i := 19) rfl)
theorem w21 {Z : State} {a0 : Array Value} (hw : ∀ d ∈ tables_1, d.before a0 Z = true) : (Jvm.Cond.laysFinal "com/example/jetway/jetway/Fetcher$Validators" "com/example/jetway/jetway/Fetcher$Validators" "entityTag" "Ljava/lang/String;").before a0 Z = true := hw _ (List.mem_of_getElem? (i := 21) rfl)
theorem w23 {Z : State} {a0 : Array Value} (hw : ∀ d ∈ tables_1, d.before a0 Z = true) : (Jvm.Cond.laysFinal "com/example/jetway/jetway/Fetcher$Validators" "com/example/jetway/jetway/Fetcher$Validators" "length" "J").before a0 Z = true := hw _ (List.mem_of_getElem? (i := 23) rfl)
theorem w25 {Z : State} {a0 : Array Value} (hw : ∀ d ∈ tables_1, d.before a0 Z = true) : (Jvm.Cond.laysFinal "com/example/jetway/jetway/Fetcher$Validators" "com/example/jetway/jetway/Fetcher$Validators" "versionId" "Ljava/lang/String;").before a0 Z = true := hw _ (List.mem_of_getElem? (i := 25) rfl)
theorem w7 {Z : State} {a0 : Array Value} (hw : ∀ d ∈ tables_1, d.before a0 Z = true) : (Jvm.Cond.methodLink "com/example/jetway/jetway/ValidatorsStatesVersionPinLaw" (20 : Nat) ({ cls := "com/example/jetway/jetway/Fetcher$Validators", name := "<init>", desc := "(Ljava/lang/String;Ljava/lang/String;JLjava/lang/String;)V" } : Jvm.MethodName)).before a0 Z = true := hw _ (List.mem_of_getElem? (i := 7) rfl)
theorem d2_0 : decode prog_37_method_1_code 0 = .ok (.aload_n 0, 1) := by decide +kernel
theorem d2_1 : decode prog_37_method_1_code 1 = .ok (.invokespecial 1, 3) := by decide +kernel
theorem w10 {Z : State} {a0 : Array Value} (hw : ∀ d ∈ tables_1, d.before a0 Z = true) : (Jvm.Cond.methodLink "com/example/jetway/jetway/Fetcher$Validators" (1 : Nat) ({ cls := "java/lang/Record", name := "<init>", desc := "()V" } : Jvm.MethodName)).before a0 Z = true := hw _ (List.mem_of_getElem? (i := 10) rfl)
theorem d3_0 : decode jdk_30_method_1_code 0 = .ok (.aload_n 0, 1) := by decide +kernel
theorem d3_1 : decode jdk_30_method_1_code 1 = .ok (.invokespecial 1, 3) := by decide +kernel
theorem w15 {Z : State} {a0 : Array Value} (hw : ∀ d ∈ tables_1, d.before a0 Z = true) : (Jvm.Cond.methodLink "java/lang/Record" (1 : Nat) ({ cls := "java/lang/Object", name := "<init>", desc := "()V" } : Jvm.MethodName)).before a0 Z = true := hw _ (List.mem_of_getElem? (i := 15) rfl)
theorem d3_4 : decode jdk_30_method_1_code 4 = .ok (.return_, 1) := by decide +kernel
theorem pn_79 : plainName "java/lang/Record" = true := by first | (simp [plainName, overriddenIn]; done) | decide +kernel
theorem w14 {Z : State} {a0 : Array Value} (hw : ∀ d ∈ tables_1, d.before a0 Z = true) : (Jvm.Cond.code ({ cls := "java/lang/Record", name := "<init>", desc := "()V" } : Jvm.MethodName) jdk_30_method_1_code (1 : Nat) (Option.none : Option Jvm.ClassFile.FieldType)).before a0 Z = true := hw _ (List.mem_of_getElem? (i := 14) rfl)
theorem w13 {Z : State} {a0 : Array Value} (hw : ∀ d ∈ tables_1, d.before a0 Z = true) : (Jvm.Cond.initialized "java/lang/Record").before a0 Z = true := hw _ (List.mem_of_getElem? (i := 13) rfl)
theorem pd_80 : parseMethodDescriptor "()V" = some ⟨[], none⟩ := by decide +kernel
theorem w11 {Z : State} {a0 : Array Value} (hw : ∀ d ∈ tables_1, d.before a0 Z = true) : (Jvm.Cond.instanceMethod ({ cls := "java/lang/Record", name := "<init>", desc := "()V" } : Jvm.MethodName)).before a0 Z = true := hw _ (List.mem_of_getElem? (i := 11) rfl)
theorem d2_4 : decode prog_37_method_1_code 4 = .ok (.aload_n 2, 1) := by decide +kernel
theorem d2_5 : decode prog_37_method_1_code 5 = .ok (.ifnull 14, 3) := by decide +kernel
theorem d2_19 : decode prog_37_method_1_code 19 = .ok (.aload_n 0, 1) := by decide +kernel
theorem d2_20 : decode prog_37_method_1_code 20 = .ok (.aload_n 1, 1) := by decide +kernel
theorem d2_21 : decode prog_37_method_1_code 21 = .ok (.putfield 15, 3) := by decide +kernel
theorem w18 {Z : State} {a0 : Array Value} (hw : ∀ d ∈ tables_1, d.before a0 Z = true) : (Jvm.Cond.fieldLink "com/example/jetway/jetway/Fetcher$Validators" (15 : Nat) "com/example/jetway/jetway/Fetcher$Validators" "lastModified" "Ljava/lang/String;").before a0 Z = true := hw _ (List.mem_of_getElem? (i := 18) rfl)
theorem d2_24 : decode prog_37_method_1_code 24 = .ok (.aload_n 0, 1) := by decide +kernel
theorem d2_25 : decode prog_37_method_1_code 25 = .ok (.aload_n 2, 1) := by decide +kernel
theorem d2_26 : decode prog_37_method_1_code 26 = .ok (.putfield 21, 3) := by decide +kernel
theorem w20 {Z : State} {a0 : Array Value} (hw : ∀ d ∈ tables_1, d.before a0 Z = true) : (Jvm.Cond.fieldLink "com/example/jetway/jetway/Fetcher$Validators" (21 : Nat) "com/example/jetway/jetway/Fetcher$Validators" "entityTag" "Ljava/lang/String;").before a0 Z = true := hw _ (List.mem_of_getElem? (i := 20) rfl)
theorem d2_29 : decode prog_37_method_1_code 29 = .ok (.aload_n 0, 1) := by decide +kernel
theorem d2_30 : decode prog_37_method_1_code 30 = .ok (.lload_n 3, 1) := by decide +kernel
theorem d2_31 : decode prog_37_method_1_code 31 = .ok (.putfield 24, 3) := by decide +kernel
theorem w22 {Z : State} {a0 : Array Value} (hw : ∀ d ∈ tables_1, d.before a0 Z = true) : (Jvm.Cond.fieldLink "com/example/jetway/jetway/Fetcher$Validators" (24 : Nat) "com/example/jetway/jetway/Fetcher$Validators" "length" "J").before a0 Z = true := hw _ (List.mem_of_getElem? (i := 22) rfl)
theorem d2_34 : decode prog_37_method_1_code 34 = .ok (.aload_n 0, 1) := by decide +kernel
theorem d2_35 : decode prog_37_method_1_code 35 = .ok (.aload 5, 2) := by decide +kernel
theorem d2_37 : decode prog_37_method_1_code 37 = .ok (.putfield 28, 3) := by decide +kernel
theorem w24 {Z : State} {a0 : Array Value} (hw : ∀ d ∈ tables_1, d.before a0 Z = true) : (Jvm.Cond.fieldLink "com/example/jetway/jetway/Fetcher$Validators" (28 : Nat) "com/example/jetway/jetway/Fetcher$Validators" "versionId" "Ljava/lang/String;").before a0 Z = true := hw _ (List.mem_of_getElem? (i := 24) rfl)
theorem d2_40 : decode prog_37_method_1_code 40 = .ok (.return_, 1) := by decide +kernel
theorem pn_96 : plainName "com/example/jetway/jetway/Fetcher$Validators" = true := by first | (simp [plainName, overriddenIn]; done) | decide +kernel
theorem w9 {Z : State} {a0 : Array Value} (hw : ∀ d ∈ tables_1, d.before a0 Z = true) : (Jvm.Cond.code ({ cls := "com/example/jetway/jetway/Fetcher$Validators", name := "<init>", desc := "(Ljava/lang/String;Ljava/lang/String;JLjava/lang/String;)V" } : Jvm.MethodName) prog_37_method_1_code (6 : Nat) (Option.none : Option Jvm.ClassFile.FieldType)).before a0 Z = true := hw _ (List.mem_of_getElem? (i := 9) rfl)
theorem pd_97 : parseMethodDescriptor "(Ljava/lang/String;Ljava/lang/String;JLjava/lang/String;)V" = some ⟨[(.object "java/lang/String"), (.object "java/lang/String"), .long, (.object "java/lang/String")], none⟩ := by decide +kernel
theorem w8 {Z : State} {a0 : Array Value} (hw : ∀ d ∈ tables_1, d.before a0 Z = true) : (Jvm.Cond.instanceMethod ({ cls := "com/example/jetway/jetway/Fetcher$Validators", name := "<init>", desc := "(Ljava/lang/String;Ljava/lang/String;JLjava/lang/String;)V" } : Jvm.MethodName)).before a0 Z = true := hw _ (List.mem_of_getElem? (i := 8) rfl)
theorem w26 {Z : State} {a0 : Array Value} (hw : ∀ d ∈ tables_1, d.before a0 Z = true) : (Jvm.Cond.methodLink "com/example/jetway/jetway/ValidatorsStatesVersionPinLaw" (31 : Nat) ({ cls := "com/example/jetway/jetway/Fetcher$Validators", name := "statesVersion", desc := "()Z" } : Jvm.MethodName)).before a0 Z = true := hw _ (List.mem_of_getElem? (i := 26) rfl)
theorem d5_0 : decode prog_37_method_2_code 0 = .ok (.aload_n 0, 1) := by decide +kernel
theorem d5_1 : decode prog_37_method_2_code 1 = .ok (.getfield 28, 3) := by decide +kernel
theorem d5_4 : decode prog_37_method_2_code 4 = .ok (.ifnonnull 17, 3) := by decide +kernel
theorem d5_7 : decode prog_37_method_2_code 7 = .ok (.aload_n 0, 1) := by decide +kernel
theorem d5_8 : decode prog_37_method_2_code 8 = .ok (.getfield 21, 3) := by decide +kernel
theorem d5_11 : decode prog_37_method_2_code 11 = .ok (.ifnonnull 10, 3) := by decide +kernel
theorem d5_14 : decode prog_37_method_2_code 14 = .ok (.aload_n 0, 1) := by decide +kernel
theorem d5_15 : decode prog_37_method_2_code 15 = .ok (.getfield 15, 3) := by decide +kernel
theorem d5_18 : decode prog_37_method_2_code 18 = .ok (.ifnull 7, 3) := by decide +kernel
theorem d5_25 : decode prog_37_method_2_code 25 = .ok (.iconst 0, 1) := by decide +kernel
theorem d5_26 : decode prog_37_method_2_code 26 = .ok (.ireturn, 1) := by decide +kernel
theorem w30 {Z : State} {a0 : Array Value} (hw : ∀ d ∈ tables_1, d.before a0 Z = true) : (Jvm.Cond.code ({ cls := "com/example/jetway/jetway/Fetcher$Validators", name := "statesVersion", desc := "()Z" } : Jvm.MethodName) prog_37_method_2_code (1 : Nat) (Option.some Jvm.ClassFile.FieldType.boolean)).before a0 Z = true := hw _ (List.mem_of_getElem? (i := 30) rfl)
theorem pd_109 : parseMethodDescriptor "()Z" = some ⟨[], some .boolean⟩ := by decide +kernel
theorem w27 {Z : State} {a0 : Array Value} (hw : ∀ d ∈ tables_1, d.before a0 Z = true) : (Jvm.Cond.declares ({ cls := "com/example/jetway/jetway/Fetcher$Validators", name := "statesVersion", desc := "()Z" } : Jvm.MethodName)).before a0 Z = true := hw _ (List.mem_of_getElem? (i := 27) rfl)
theorem w29 {Z : State} {a0 : Array Value} (hw : ∀ d ∈ tables_1, d.before a0 Z = true) : (Jvm.Cond.selects "com/example/jetway/jetway/Fetcher$Validators" ({ cls := "com/example/jetway/jetway/Fetcher$Validators", name := "statesVersion", desc := "()Z" } : Jvm.MethodName) ({ cls := "com/example/jetway/jetway/Fetcher$Validators", name := "statesVersion", desc := "()Z" } : Jvm.MethodName)).before a0 Z = true := hw _ (List.mem_of_getElem? (i := 29) rfl)
theorem w28 {Z : State} {a0 : Array Value} (hw : ∀ d ∈ tables_1, d.before a0 Z = true) : (Jvm.Cond.instanceMethod ({ cls := "com/example/jetway/jetway/Fetcher$Validators", name := "statesVersion", desc := "()Z" } : Jvm.MethodName)).before a0 Z = true := hw _ (List.mem_of_getElem? (i := 28) rfl)
theorem d5_21 : decode prog_37_method_2_code 21 = .ok (.iconst 1, 1) := by decide +kernel
theorem d5_22 : decode prog_37_method_2_code 22 = .ok (.goto 4, 3) := by decide +kernel
theorem d2_8 : decode prog_37_method_1_code 8 = .ok (.aload_n 2, 1) := by decide +kernel
theorem d2_9 : decode prog_37_method_1_code 9 = .ok (.ldc 7, 2) := by decide +kernel
theorem w59 {Z : State} {a0 : Array Value} (hw : ∀ d ∈ tables_1, d.before a0 Z = true) : (Jvm.Cond.stringLink "com/example/jetway/jetway/Fetcher$Validators" (7 : Nat) "W/").before a0 Z = true := hw _ (List.mem_of_getElem? (i := 59) rfl)
theorem d2_11 : decode prog_37_method_1_code 11 = .ok (.invokevirtual 9, 3) := by decide +kernel
theorem w62 {Z : State} {a0 : Array Value} (hw : ∀ d ∈ tables_1, d.before a0 Z = true) : (Jvm.Cond.methodLink "com/example/jetway/jetway/Fetcher$Validators" (9 : Nat) ({ cls := "java/lang/String", name := "startsWith", desc := "(Ljava/lang/String;)Z" } : Jvm.MethodName)).before a0 Z = true := hw _ (List.mem_of_getElem? (i := 62) rfl)
theorem d11_0 : decode jdk_42_method_76_code 0 = .ok (.aload_n 0, 1) := by decide +kernel
theorem d11_1 : decode jdk_42_method_76_code 1 = .ok (.aload_n 1, 1) := by decide +kernel
theorem d11_2 : decode jdk_42_method_76_code 2 = .ok (.iconst 0, 1) := by decide +kernel
theorem d11_3 : decode jdk_42_method_76_code 3 = .ok (.invokevirtual 624, 3) := by decide +kernel
theorem w67 {Z : State} {a0 : Array Value} (hw : ∀ d ∈ tables_1, d.before a0 Z = true) : (Jvm.Cond.methodLink "java/lang/String" (624 : Nat) ({ cls := "java/lang/String", name := "startsWith", desc := "(Ljava/lang/String;I)Z" } : Jvm.MethodName)).before a0 Z = true := hw _ (List.mem_of_getElem? (i := 67) rfl)
theorem d12_0 : decode jdk_42_method_75_code 0 = .ok (.iload_n 2, 1) := by decide +kernel
theorem d12_1 : decode jdk_42_method_75_code 1 = .ok (.ifCond .lt 16, 3) := by decide +kernel
theorem d12_4 : decode jdk_42_method_75_code 4 = .ok (.iload_n 2, 1) := by decide +kernel
theorem d12_5 : decode jdk_42_method_75_code 5 = .ok (.aload_n 0, 1) := by decide +kernel
theorem d12_6 : decode jdk_42_method_75_code 6 = .ok (.invokevirtual 505, 3) := by decide +kernel
theorem w72 {Z : State} {a0 : Array Value} (hw : ∀ d ∈ tables_1, d.before a0 Z = true) : (Jvm.Cond.methodLink "java/lang/String" (505 : Nat) ({ cls := "java/lang/String", name := "length", desc := "()I" } : Jvm.MethodName)).before a0 Z = true := hw _ (List.mem_of_getElem? (i := 72) rfl)
theorem w73 {Z : State} {a0 : Array Value} (hw : ∀ d ∈ tables_1, d.before a0 Z = true) : (Jvm.Cond.declares ({ cls := "java/lang/String", name := "length", desc := "()I" } : Jvm.MethodName)).before a0 Z = true := hw _ (List.mem_of_getElem? (i := 73) rfl)
theorem w75 {Z : State} {a0 : Array Value} (hw : ∀ d ∈ tables_1, d.before a0 Z = true) : (Jvm.Cond.selects "java/lang/String" ({ cls := "java/lang/String", name := "length", desc := "()I" } : Jvm.MethodName) ({ cls := "java/lang/String", name := "length", desc := "()I" } : Jvm.MethodName)).before a0 Z = true := hw _ (List.mem_of_getElem? (i := 75) rfl)
theorem w74 {Z : State} {a0 : Array Value} (hw : ∀ d ∈ tables_1, d.before a0 Z = true) : (Jvm.Cond.instanceMethod ({ cls := "java/lang/String", name := "length", desc := "()I" } : Jvm.MethodName)).before a0 Z = true := hw _ (List.mem_of_getElem? (i := 74) rfl)
theorem d12_9 : decode jdk_42_method_75_code 9 = .ok (.aload_n 1, 1) := by decide +kernel
theorem d12_10 : decode jdk_42_method_75_code 10 = .ok (.invokevirtual 505, 3) := by decide +kernel
theorem d12_13 : decode jdk_42_method_75_code 13 = .ok (.isub, 1) := by decide +kernel
theorem d12_14 : decode jdk_42_method_75_code 14 = .ok (.if_icmp .le 5, 3) := by decide +kernel
theorem d12_17 : decode jdk_42_method_75_code 17 = .ok (.iconst 0, 1) := by decide +kernel
theorem d12_18 : decode jdk_42_method_75_code 18 = .ok (.ireturn, 1) := by decide +kernel
theorem w71 {Z : State} {a0 : Array Value} (hw : ∀ d ∈ tables_1, d.before a0 Z = true) : (Jvm.Cond.code ({ cls := "java/lang/String", name := "startsWith", desc := "(Ljava/lang/String;I)Z" } : Jvm.MethodName) jdk_42_method_75_code (8 : Nat) (Option.some Jvm.ClassFile.FieldType.boolean)).before a0 Z = true := hw _ (List.mem_of_getElem? (i := 71) rfl)
theorem pd_130 : parseMethodDescriptor "(Ljava/lang/String;I)Z" = some ⟨[(.object "java/lang/String"), .int], some .boolean⟩ := by decide +kernel
theorem w68 {Z : State} {a0 : Array Value} (hw : ∀ d ∈ tables_1, d.before a0 Z = true) : (Jvm.Cond.declares ({ cls := "java/lang/String", name := "startsWith", desc := "(Ljava/lang/String;I)Z" } : Jvm.MethodName)).before a0 Z = true := hw _ (List.mem_of_getElem? (i := 68) rfl)
theorem w70 {Z : State} {a0 : Array Value} (hw : ∀ d ∈ tables_1, d.before a0 Z = true) : (Jvm.Cond.selects "java/lang/String" ({ cls := "java/lang/String", name := "startsWith", desc := "(Ljava/lang/String;I)Z" } : Jvm.MethodName) ({ cls := "java/lang/String", name := "startsWith", desc := "(Ljava/lang/String;I)Z" } : Jvm.MethodName)).before a0 Z = true := hw _ (List.mem_of_getElem? (i := 70) rfl)
theorem w69 {Z : State} {a0 : Array Value} (hw : ∀ d ∈ tables_1, d.before a0 Z = true) : (Jvm.Cond.instanceMethod ({ cls := "java/lang/String", name := "startsWith", desc := "(Ljava/lang/String;I)Z" } : Jvm.MethodName)).before a0 Z = true := hw _ (List.mem_of_getElem? (i := 69) rfl)
theorem d11_6 : decode jdk_42_method_76_code 6 = .ok (.ireturn, 1) := by decide +kernel
theorem w66 {Z : State} {a0 : Array Value} (hw : ∀ d ∈ tables_1, d.before a0 Z = true) : (Jvm.Cond.code ({ cls := "java/lang/String", name := "startsWith", desc := "(Ljava/lang/String;)Z" } : Jvm.MethodName) jdk_42_method_76_code (2 : Nat) (Option.some Jvm.ClassFile.FieldType.boolean)).before a0 Z = true := hw _ (List.mem_of_getElem? (i := 66) rfl)
theorem pd_132 : parseMethodDescriptor "(Ljava/lang/String;)Z" = some ⟨[(.object "java/lang/String")], some .boolean⟩ := by decide +kernel
theorem w63 {Z : State} {a0 : Array Value} (hw : ∀ d ∈ tables_1, d.before a0 Z = true) : (Jvm.Cond.declares ({ cls := "java/lang/String", name := "startsWith", desc := "(Ljava/lang/String;)Z" } : Jvm.MethodName)).before a0 Z = true := hw _ (List.mem_of_getElem? (i := 63) rfl)
theorem w65 {Z : State} {a0 : Array Value} (hw : ∀ d ∈ tables_1, d.before a0 Z = true) : (Jvm.Cond.selects "java/lang/String" ({ cls := "java/lang/String", name := "startsWith", desc := "(Ljava/lang/String;)Z" } : Jvm.MethodName) ({ cls := "java/lang/String", name := "startsWith", desc := "(Ljava/lang/String;)Z" } : Jvm.MethodName)).before a0 Z = true := hw _ (List.mem_of_getElem? (i := 65) rfl)
theorem w64 {Z : State} {a0 : Array Value} (hw : ∀ d ∈ tables_1, d.before a0 Z = true) : (Jvm.Cond.instanceMethod ({ cls := "java/lang/String", name := "startsWith", desc := "(Ljava/lang/String;)Z" } : Jvm.MethodName)).before a0 Z = true := hw _ (List.mem_of_getElem? (i := 64) rfl)
theorem d2_14 : decode prog_37_method_1_code 14 = .ok (.ifCond .eq 5, 3) := by decide +kernel
theorem w86 {Z : State} {a0 : Array Value} (hw : ∀ d ∈ tables_1, d.before a0 Z = true) : (Jvm.Cond.methodLink "com/example/jetway/jetway/ValidatorsStatesVersionPinLaw" (23 : Nat) ({ cls := "java/lang/String", name := "length", desc := "()I" } : Jvm.MethodName)).before a0 Z = true := hw _ (List.mem_of_getElem? (i := 86) rfl)
theorem d12_19 : decode jdk_42_method_75_code 19 = .ok (.aload_n 0, 1) := by decide +kernel
theorem d12_20 : decode jdk_42_method_75_code 20 = .ok (.getfield 9, 3) := by decide +kernel
theorem d12_23 : decode jdk_42_method_75_code 23 = .ok (.astore_n 3, 1) := by decide +kernel
theorem d12_24 : decode jdk_42_method_75_code 24 = .ok (.aload_n 1, 1) := by decide +kernel
theorem d12_25 : decode jdk_42_method_75_code 25 = .ok (.getfield 9, 3) := by decide +kernel
theorem d12_28 : decode jdk_42_method_75_code 28 = .ok (.astore 4, 2) := by decide +kernel
theorem d12_30 : decode jdk_42_method_75_code 30 = .ok (.iconst 0, 1) := by decide +kernel
theorem d12_31 : decode jdk_42_method_75_code 31 = .ok (.istore 5, 2) := by decide +kernel
theorem d12_33 : decode jdk_42_method_75_code 33 = .ok (.aload 4, 2) := by decide +kernel
theorem d12_35 : decode jdk_42_method_75_code 35 = .ok (.arraylength, 1) := by decide +kernel
theorem d12_36 : decode jdk_42_method_75_code 36 = .ok (.istore 6, 2) := by decide +kernel
theorem d12_38 : decode jdk_42_method_75_code 38 = .ok (.aload_n 0, 1) := by decide +kernel
theorem d12_39 : decode jdk_42_method_75_code 39 = .ok (.invokevirtual 335, 3) := by decide +kernel
theorem w77 {Z : State} {a0 : Array Value} (hw : ∀ d ∈ tables_1, d.before a0 Z = true) : (Jvm.Cond.methodLink "java/lang/String" (335 : Nat) ({ cls := "java/lang/String", name := "coder", desc := "()B" } : Jvm.MethodName)).before a0 Z = true := hw _ (List.mem_of_getElem? (i := 77) rfl)
theorem d14_0 : decode jdk_42_method_152_code 0 = .ok (.getstatic 38, 3) := by decide +kernel
theorem w43 {Z : State} {a0 : Array Value} (hw : ∀ d ∈ tables_1, d.before a0 Z = true) : (Jvm.Cond.fieldLink "java/lang/String" (38 : Nat) "java/lang/String" "COMPACT_STRINGS" "Z").before a0 Z = true := hw _ (List.mem_of_getElem? (i := 43) rfl)
theorem d14_3 : decode jdk_42_method_152_code 3 = .ok (.ifCond .eq 10, 3) := by decide +kernel
theorem d14_6 : decode jdk_42_method_152_code 6 = .ok (.aload_n 0, 1) := by decide +kernel
theorem d14_7 : decode jdk_42_method_152_code 7 = .ok (.getfield 15, 3) := by decide +kernel
theorem d14_10 : decode jdk_42_method_152_code 10 = .ok (.goto 4, 3) := by decide +kernel
theorem d14_14 : decode jdk_42_method_152_code 14 = .ok (.ireturn, 1) := by decide +kernel
theorem w81 {Z : State} {a0 : Array Value} (hw : ∀ d ∈ tables_1, d.before a0 Z = true) : (Jvm.Cond.code ({ cls := "java/lang/String", name := "coder", desc := "()B" } : Jvm.MethodName) jdk_42_method_152_code (1 : Nat) (Option.some Jvm.ClassFile.FieldType.byte)).before a0 Z = true := hw _ (List.mem_of_getElem? (i := 81) rfl)
theorem pd_153 : parseMethodDescriptor "()B" = some ⟨[], some .byte⟩ := by decide +kernel
theorem w78 {Z : State} {a0 : Array Value} (hw : ∀ d ∈ tables_1, d.before a0 Z = true) : (Jvm.Cond.declares ({ cls := "java/lang/String", name := "coder", desc := "()B" } : Jvm.MethodName)).before a0 Z = true := hw _ (List.mem_of_getElem? (i := 78) rfl)
theorem w80 {Z : State} {a0 : Array Value} (hw : ∀ d ∈ tables_1, d.before a0 Z = true) : (Jvm.Cond.selects "java/lang/String" ({ cls := "java/lang/String", name := "coder", desc := "()B" } : Jvm.MethodName) ({ cls := "java/lang/String", name := "coder", desc := "()B" } : Jvm.MethodName)).before a0 Z = true := hw _ (List.mem_of_getElem? (i := 80) rfl)
theorem w79 {Z : State} {a0 : Array Value} (hw : ∀ d ∈ tables_1, d.before a0 Z = true) : (Jvm.Cond.instanceMethod ({ cls := "java/lang/String", name := "coder", desc := "()B" } : Jvm.MethodName)).before a0 Z = true := hw _ (List.mem_of_getElem? (i := 79) rfl)
theorem d12_42 : decode jdk_42_method_75_code 42 = .ok (.istore 7, 2) := by decide +kernel
theorem d12_44 : decode jdk_42_method_75_code 44 = .ok (.iload 7, 2) := by decide +kernel
theorem d12_46 : decode jdk_42_method_75_code 46 = .ok (.aload_n 1, 1) := by decide +kernel
theorem d12_47 : decode jdk_42_method_75_code 47 = .ok (.invokevirtual 335, 3) := by decide +kernel
theorem d12_50 : decode jdk_42_method_75_code 50 = .ok (.if_icmp .ne 32, 3) := by decide +kernel
theorem d12_53 : decode jdk_42_method_75_code 53 = .ok (.iload 7, 2) := by decide +kernel
theorem d12_55 : decode jdk_42_method_75_code 55 = .ok (.iconst 1, 1) := by decide +kernel
theorem d12_56 : decode jdk_42_method_75_code 56 = .ok (.if_icmp .ne 7, 3) := by decide +kernel
theorem d12_63 : decode jdk_42_method_75_code 63 = .ok (.aload_n 3, 1) := by decide +kernel
theorem d12_64 : decode jdk_42_method_75_code 64 = .ok (.iload_n 2, 1) := by decide +kernel
theorem d12_65 : decode jdk_42_method_75_code 65 = .ok (.aload 4, 2) := by decide +kernel
theorem d12_67 : decode jdk_42_method_75_code 67 = .ok (.iconst 0, 1) := by decide +kernel
theorem d12_68 : decode jdk_42_method_75_code 68 = .ok (.iload 6, 2) := by decide +kernel
theorem d12_70 : decode jdk_42_method_75_code 70 = .ok (.invokestatic 607, 3) := by decide +kernel
theorem w82 {Z : State} {a0 : Array Value} (hw : ∀ d ∈ tables_1, d.before a0 Z = true) : (Jvm.Cond.methodLink "java/lang/String" (607 : Nat) ({ cls := "jdk/internal/util/ArraysSupport", name := "mismatch", desc := "([BI[BII)I" } : Jvm.MethodName)).before a0 Z = true := hw _ (List.mem_of_getElem? (i := 82) rfl)
theorem d15_0 : decode jdk_48_method_14_code 0 = .ok (.iconst 0, 1) := by decide +kernel
theorem d15_1 : decode jdk_48_method_14_code 1 = .ok (.istore 5, 2) := by decide +kernel
theorem d15_3 : decode jdk_48_method_14_code 3 = .ok (.iload 4, 2) := by decide +kernel
theorem d15_5 : decode jdk_48_method_14_code 5 = .ok (.bipush 7, 2) := by decide +kernel
theorem d15_7 : decode jdk_48_method_14_code 7 = .ok (.if_icmp .le 63, 3) := by decide +kernel
theorem d15_70 : decode jdk_48_method_14_code 70 = .ok (.iload 5, 2) := by decide +kernel
theorem d15_72 : decode jdk_48_method_14_code 72 = .ok (.iload 4, 2) := by decide +kernel
theorem d15_74 : decode jdk_48_method_14_code 74 = .ok (.if_icmp .ge 27, 3) := by decide +kernel
theorem d15_77 : decode jdk_48_method_14_code 77 = .ok (.aload_n 0, 1) := by decide +kernel
theorem d15_78 : decode jdk_48_method_14_code 78 = .ok (.iload_n 1, 1) := by decide +kernel
theorem d15_79 : decode jdk_48_method_14_code 79 = .ok (.iload 5, 2) := by decide +kernel
theorem d15_81 : decode jdk_48_method_14_code 81 = .ok (.iadd, 1) := by decide +kernel
theorem d15_82 : decode jdk_48_method_14_code 82 = .ok (.baload, 1) := by decide +kernel
theorem d15_83 : decode jdk_48_method_14_code 83 = .ok (.aload_n 2, 1) := by decide +kernel
theorem d15_84 : decode jdk_48_method_14_code 84 = .ok (.iload_n 3, 1) := by decide +kernel
theorem d15_85 : decode jdk_48_method_14_code 85 = .ok (.iload 5, 2) := by decide +kernel
theorem d15_87 : decode jdk_48_method_14_code 87 = .ok (.iadd, 1) := by decide +kernel
theorem d15_88 : decode jdk_48_method_14_code 88 = .ok (.baload, 1) := by decide +kernel
theorem d15_89 : decode jdk_48_method_14_code 89 = .ok (.if_icmp .eq 6, 3) := by decide +kernel
theorem d15_95 : decode jdk_48_method_14_code 95 = .ok (.iinc 5 1, 3) := by decide +kernel
theorem d15_98 : decode jdk_48_method_14_code 98 = .ok (.goto (-28), 3) := by decide +kernel
theorem d15_101 : decode jdk_48_method_14_code 101 = .ok (.iconst (-1), 1) := by decide +kernel
theorem d15_102 : decode jdk_48_method_14_code 102 = .ok (.ireturn, 1) := by decide +kernel
theorem pn_191 : plainName "jdk/internal/util/ArraysSupport" = true := by first | (simp [plainName, overriddenIn]; done) | decide +kernel
theorem w85 {Z : State} {a0 : Array Value} (hw : ∀ d ∈ tables_1, d.before a0 Z = true) : (Jvm.Cond.code ({ cls := "jdk/internal/util/ArraysSupport", name := "mismatch", desc := "([BI[BII)I" } : Jvm.MethodName) jdk_48_method_14_code (8 : Nat) (Option.some Jvm.ClassFile.FieldType.int)).before a0 Z = true := hw _ (List.mem_of_getElem? (i := 85) rfl)
theorem w84 {Z : State} {a0 : Array Value} (hw : ∀ d ∈ tables_1, d.before a0 Z = true) : (Jvm.Cond.initialized "jdk/internal/util/ArraysSupport").before a0 Z = true := hw _ (List.mem_of_getElem? (i := 84) rfl)
theorem pd_192 : parseMethodDescriptor "([BI[BII)I" = some ⟨[(.array .byte), .int, (.array .byte), .int, .int], some .int⟩ := by decide +kernel
theorem w83 {Z : State} {a0 : Array Value} (hw : ∀ d ∈ tables_1, d.before a0 Z = true) : (Jvm.Cond.static ({ cls := "jdk/internal/util/ArraysSupport", name := "mismatch", desc := "([BI[BII)I" } : Jvm.MethodName)).before a0 Z = true := hw _ (List.mem_of_getElem? (i := 83) rfl)
theorem d12_73 : decode jdk_42_method_75_code 73 = .ok (.ifCond .ge 7, 3) := by decide +kernel
theorem d12_76 : decode jdk_42_method_75_code 76 = .ok (.iconst 1, 1) := by decide +kernel
theorem d12_77 : decode jdk_42_method_75_code 77 = .ok (.goto 4, 3) := by decide +kernel
theorem d12_81 : decode jdk_42_method_75_code 81 = .ok (.ireturn, 1) := by decide +kernel
theorem d2_17 : decode prog_37_method_1_code 17 = .ok (.aconst_null, 1) := by decide +kernel
theorem d2_18 : decode prog_37_method_1_code 18 = .ok (.astore_n 2, 1) := by decide +kernel
theorem w87 {Z : State} {a0 : Array Value} (hw : ∀ d ∈ tables_1, d.before a0 Z = true) : (Jvm.Cond.methodLink "com/example/jetway/jetway/ValidatorsStatesVersionPinLaw" (27 : Nat) ({ cls := "java/lang/String", name := "charAt", desc := "(I)C" } : Jvm.MethodName)).before a0 Z = true := hw _ (List.mem_of_getElem? (i := 87) rfl)
theorem w88 {Z : State} {a0 : Array Value} (hw : ∀ d ∈ tables_1, d.before a0 Z = true) : (Jvm.Cond.declares ({ cls := "java/lang/String", name := "charAt", desc := "(I)C" } : Jvm.MethodName)).before a0 Z = true := hw _ (List.mem_of_getElem? (i := 88) rfl)
theorem w90 {Z : State} {a0 : Array Value} (hw : ∀ d ∈ tables_1, d.before a0 Z = true) : (Jvm.Cond.selects "java/lang/String" ({ cls := "java/lang/String", name := "charAt", desc := "(I)C" } : Jvm.MethodName) ({ cls := "java/lang/String", name := "charAt", desc := "(I)C" } : Jvm.MethodName)).before a0 Z = true := hw _ (List.mem_of_getElem? (i := 90) rfl)
theorem w89 {Z : State} {a0 : Array Value} (hw : ∀ d ∈ tables_1, d.before a0 Z = true) : (Jvm.Cond.instanceMethod ({ cls := "java/lang/String", name := "charAt", desc := "(I)C" } : Jvm.MethodName)).before a0 Z = true := hw _ (List.mem_of_getElem? (i := 89) rfl)
theorem d15_92 : decode jdk_48_method_14_code 92 = .ok (.iload 5, 2) := by decide +kernel
theorem d15_94 : decode jdk_48_method_14_code 94 = .ok (.ireturn, 1) := by decide +kernel
theorem d12_80 : decode jdk_42_method_75_code 80 = .ok (.iconst 0, 1) := by decide +kernel
theorem own_EL {Z : State} {a0 : Array Value} (hw : ∀ d ∈ tables_1, d.before a0 Z = true) : EW Z a0 consts_1 := (EW.cons (w59 hw) (by decide) (EW.cons (w109 hw) (by decide) EW.nil))
theorem own_SA {Z : State} {a0 : Array Value} (hw : ∀ d ∈ tables_1, d.before a0 Z = true) : ∀ d ∈ Bundle.stringAtoms, d.before a0 Z = true := fun d hd => hw d ((by decide +kernel : ∀ d ∈ Bundle.stringAtoms, d ∈ tables_1) d hd)
theorem w48 {Z : State} {a0 : Array Value} (hw : ∀ d ∈ tables_1, d.before a0 Z = true) : (Jvm.Cond.arrayClass Jvm.ClassFile.FieldType.byte).before a0 Z = true := hw _ (List.mem_of_getElem? (i := 48) rfl)
theorem own_b8 {x c : Int32} {lo hi : Int} (l : lo ≤ x.toInt) (u : x.toInt ≤ hi) (h1 : 0 ≤ lo ∧ hi ≤ 255) (h2 : 0 ≤ c.toInt ∧ c.toInt ≤ 127) (h : ¬ x = c) : ¬ x.toInt8.toInt32 = c := fun z => h (by
  apply own_i32
  have q := congrArg Int32.toInt z
  rw [Int8.toInt_toInt32, Int32.toInt_toInt8] at q
  rw [Int.bmod_def] at q
  split at q <;> omega)

theorem own_narR {C : String} {v : Value} (h : v.isRef = true) : narrow (.object C) v = v := by cases v <;> first | rfl | exact absurd h Bool.false_ne_true
theorem own_catR {v : Value} (h : v.isRef = true) : v.category = 1 := by cases v <;> first | rfl | exact absurd h Bool.false_ne_true
theorem own_fitR {C : String} {v : Value} (h : v.isRef = true) : fits (.object C) v = true := by cases v <;> first | rfl | exact absurd h Bool.false_ne_true

set_option maxRecDepth 65536 in
set_option maxHeartbeats 40000000 in
theorem rm_str4_0 {l : Launch} {Z : State} {a0 : Array Value} (hw : ∀ d ∈ tables_1, d.before a0 Z = true) {cz : Int32} {fm : Value} {o0 : Addr} {o1 : Addr} {h0 : Heap} {n0 : Nat} (O : Old Z n0 h0) (W : Wd Z cz fm)  (P0 : Exa Z h0 o0 "java/lang/String") (P1 : Fld Z h0 o0 "java/lang/String" "coder" "B" (.int (0 : Int32))) (P2 : Fld Z h0 o0 "java/lang/String" "value" "[B" .null) (G0 : n0 ≤ o0) :
    MetW0 l Z consts_1 (⟨"java/lang/String", "<init>", "([CIILjava/lang/Void;)V"⟩ : MethodName) jdk_42_method_149_code 6 none ({ frames := 1, cells := 4, slots := 8, locals := 12 } : Room) #[(.ref o0), (.ref o1), (.int (0 : Int32)), (.int (0 : Int32)), .null] h0 n0 (fun h => Keep h0 h [o0] ∧ Exa Z h o0 "java/lang/String" ∧ Str Z h o0 []) := by
  refine metW_of (L := #[.val (.ref o0), .val (.ref o1), .val (.int (0 : Int32)), .val (.int (0 : Int32)), .val .null, .unset]) (plainFor_of_name pn_32) (fun m => by first | (simp [entryFrame, mkF, argsToLocals, Value.category]; done) | rfl) ?_
  intro p e s m below meth c T vm C X Y
  change Cx p (s.setVm vm) m meth c Z "java/lang/String" jdk_42_method_149_code 6 none "<init>" at C
  have sf1 := own_safeN (EL := consts_1) (Cx.alike C) P0 P2
  refine g_aloadN C X d7_0 (q := 1) rfl rfl rfl ?_
  refine g_initO C X (w42 hw) (w16 hw) (w17 hw) rfl d7_1 (q := 4) rfl (by decide) (by decide) ?_
  intro T2 X3
  refine g_iloadN C X3 d7_4 (q := 5) rfl rfl ?_
  refine g_ifN C X3 d7_5 (q := 8) rfl (by decide) ?_
  refine g_aloadN C X3 d7_8 (q := 9) rfl rfl rfl ?_
  refine gW_ldcC C X3 Y (own_EL hw) (vs := []) (z := 0) (w109 hw) (own_SA hw) (List.mem_of_getElem? (i := 1) rfl) ⟨by decide, by decide +kernel⟩ (by decide) rfl d7_9 (q := 11) rfl (nn := 0) (by decide) (by decide) (k' := 2) rfl (n' := 4) rfl (by decide) (by decide) ?_
  intro b4 b12 kA13 T5 h6 vm7 C X8 Y9 E10 R11 f14 f15 f16 f17 sf18
  have O19 := O.ext E10
  have F20 : Str Z h6 b4 [] := ⟨b12, kA13, f14, f16, f15, f17, by decide, by decide⟩
  refine g_getF C X8 (host := "") (Or.inl (w57 hw)) Via.refl f16 d7_11 (q := 14) rfl ?_
  intro T21 X22
  have f23 := (P2.ext E10)
  have f24 := (P0.ext E10)
  refine g_putF C X22 (host := "") (Or.inl (w57 hw)) Via.refl f23 f24 (Or.inr ⟨(w58 hw), rfl, rfl⟩) (w32 hw) (ty := (.array .byte)) (by decide) rfl rfl d7_14 (q := 17) rfl G0 ?_
  intro T25 h27 X26 W28
  have FW28 := Fld.same W28 f23
  have Y29 := Wx.wr Y9 W28 (CHr.safe R11 P0.lt sf1)
  have O30 := O19.wr W28 G0
  refine g_aloadN C X26 d7_17 (q := 18) rfl rfl rfl ?_
  refine gW_ldcC C X26 Y29 (own_EL hw) (vs := []) (z := 0) (w109 hw) (own_SA hw) (List.mem_of_getElem? (i := 1) rfl) ⟨by decide, by decide +kernel⟩ (by decide) rfl d7_18 (q := 20) rfl (nn := 0) (by decide) (by decide) (k' := 4) rfl (n' := 8) rfl (by decide) (by decide) ?_
  intro b31 b39 kA40 T32 h33 vm34 C X35 Y36 E37 R38 f41 f42 f43 f44 sf45
  have O46 := O30.ext E37
  have F47 : Str Z h33 b31 [] := ⟨b39, kA40, f41, f43, f42, f44, by decide, by decide⟩
  refine g_getF C X35 (host := "") (Or.inl (w55 hw)) Via.refl f42 d7_20 (q := 23) rfl ?_
  intro T48 X49
  have f50 := (((P1.ext E10).other W28 (Or.inr (slot_ne (Or.inr (w56 hw)) (Or.inr (w58 hw)) (by decide) (t := .byte) (t' := (.array .byte)) (by decide) (by decide)))).ext E37)
  have f51 := ((f24.wr W28).ext E37)
  refine g_putF C X49 (host := "") (Or.inl (w55 hw)) Via.refl f50 f51 (Or.inr ⟨(w56 hw), rfl, rfl⟩) (w32 hw) (ty := .byte) (by decide) rfl rfl d7_23 (q := 26) rfl G0 ?_
  intro T52 h54 X53 W55
  have FW55 := Fld.same W55 f50
  have Y56 := Wx.wr Y36 W55 (CHr.safe R38 (Nat.lt_of_lt_of_le P0.lt (Nat.le_trans E10.1 (Nat.le_of_eq (Wr.size W28).symm))) (Wx.safeW Y9 (CHr.safe R11 P0.lt sf1) W28 (CHr.safe R11 P0.lt sf1)))
  have O57 := O46.wr W55 G0
  have f58 := (f51.wr W55)
  have f59 := ((FW28.ext E37).other W55 (Or.inr (slot_ne (Or.inr (w58 hw)) (Or.inr (w56 hw)) (by decide) (t := (.array .byte)) (t' := .byte) (by decide) (by decide))))
  have f60 := (((f17.other W28 (Ne.symm (sf18 _ (CHr.safe R11 P0.lt sf1)).2)).ext E37).other W55 (Ne.symm (sf18 _ (CHr.safe R11 P0.lt sf1)).2))
  have F61 : Str Z h54 o0 [] := ⟨b12, _, f58, f59, FW55, f60, by decide, by decide⟩
  exact gW_retV C X53 Y56 (own_EL hw) d7_26 (by decide) (by decide) ⟨rfl, (((((Keep.refl h0 [o0]).ext E10).wr W28 (Or.inl (List.mem_of_getElem? (i := 0) rfl))).ext E37).wr W55 (Or.inl (List.mem_of_getElem? (i := 0) rfl))), f58, F61⟩
set_option maxRecDepth 65536 in
set_option maxHeartbeats 40000000 in
theorem rm_str1_0 {l : Launch} {Z : State} {a0 : Array Value} (hw : ∀ d ∈ tables_1, d.before a0 Z = true) {cz : Int32} {fm : Value} {o0 : Addr} {o1 : Addr} {kc2 : ClassId} {h0 : Heap} {n0 : Nat} (O : Old Z n0 h0) (W : Wd Z cz fm)  (P0 : Exa Z h0 o0 "java/lang/String") (P1 : Fld Z h0 o0 "java/lang/String" "coder" "B" (.int (0 : Int32))) (P2 : Fld Z h0 o0 "java/lang/String" "value" "[B" .null) (P3 : Arv Z h0 o1 kc2 .char (0 : Int32) [] (.int (0 : Int32))) (G0 : n0 ≤ o0) (G1 : n0 ≤ o1) (N0_1 : o0 ≠ o1) :
    MetW0 l Z consts_1 (⟨"java/lang/String", "<init>", "([C)V"⟩ : MethodName) jdk_42_method_3_code 2 none ({ frames := 2, cells := 4, slots := 8, locals := 29 } : Room) #[(.ref o0), (.ref o1)] h0 n0 (fun h => Keep h0 h [o0] ∧ Exa Z h o0 "java/lang/String" ∧ Str Z h o0 []) := by
  refine metW_of (L := #[.val (.ref o0), .val (.ref o1)]) (plainFor_of_name pn_32) (fun m => by first | (simp [entryFrame, mkF, argsToLocals, Value.category]; done) | rfl) ?_
  intro p e s m below meth c T vm C X Y
  change Cx p (s.setVm vm) m meth c Z "java/lang/String" jdk_42_method_3_code 2 none "<init>" at C
  have sf1 := own_safeN (EL := consts_1) (Cx.alike C) P0 P2
  refine g_aloadN C X d6_0 (q := 1) rfl rfl rfl ?_
  refine g_aloadN C X d6_1 (q := 2) rfl rfl rfl ?_
  refine g_iconst C X d6_2 (q := 3) rfl (z := (0 : Int32)) rfl ?_
  refine g_aloadN C X d6_3 (q := 4) rfl rfl rfl ?_
  refine g_alen C X P3 d6_4 (q := 5) rfl ?_
  refine g_aconstNull C X d6_5 (q := 6) rfl ?_
  refine gW_callI0 C X Y (own_EL hw) (y := (⟨"java/lang/String", "<init>", "([CIILjava/lang/Void;)V"⟩ : MethodName)) (a := o0) (by decide) rfl rfl (w38 hw) (w39 hw) (w41 hw) (w33 hw) (rm_str4_0 hw (o0 := o0) (o1 := o1) O W P0 P1 P2 G0) (W := 0) (by decide) (by decide) (k' := 4) rfl (n' := 8) rfl (by decide) (by decide) rfl pd_33 (argsL := [(.ref o1), (.int (0 : Int32)), (.int (0 : Int32)), .null]) rfl (rest := []) rfl rfl rfl d6_6 (q := 9) rfl ?_
  rintro T2 h4 vm8 C X3 Y9 R10 ⟨K5, f6, f7⟩
  have O11 := O.keep K5 (allS G0 all0)
  exact gW_retV C X3 Y9 (own_EL hw) d6_9 (by decide) (by decide) ⟨rfl, ((Keep.refl h0 [o0]).trans K5 (allS (Or.inl (List.mem_of_getElem? (i := 0) rfl)) all0)), f6, f7⟩
set_option maxRecDepth 65536 in
set_option maxHeartbeats 40000000 in
theorem rm_pick {l : Launch} {Z : State} {a0 : Array Value} (hw : ∀ d ∈ tables_1, d.before a0 Z = true) {p0 p1 p2 p3 : Int32} {cz : Int32} {fm : Value} {h0 : Heap} {n0 : Nat} (O : Old Z n0 h0) (W : Wd Z cz fm) (l1 : 0 ≤ p1.toInt) (u1 : p1.toInt ≤ 255) (l2 : 0 ≤ p2.toInt) (u2 : p2.toInt ≤ 255) (l3 : 0 ≤ p3.toInt) (u3 : p3.toInt ≤ 255) :
    MetW1 l Z consts_1 (⟨"com/example/jetway/jetway/ValidatorsStatesVersionPinLaw", "pick", "(ICCC)Ljava/lang/String;"⟩ : MethodName) method_2_code 4 (some (.object "java/lang/String")) ({ frames := 4, cells := 6, slots := 12, locals := 66 } : Room) #[(.int p0), (.int p1), (.int p2), (.int p3)] h0 n0 (fun v h => Keep h0 h [] ∧ (v = .null ∨ ∃ a : Addr, ∃ cs : List Int32, v = .ref a ∧ n0 ≤ a ∧ h0.size ≤ a ∧ Exa Z h a "java/lang/String" ∧ Str Z h a cs ∧ (cs = [] ∨ cs = [p1, p2] ∨ cs = [p1, p2, p3]))) := by
  refine metW_of (L := #[.val (.int p0), .val (.int p1), .val (.int p2), .val (.int p3)]) (plainFor_of_name pn_72) (fun m => by first | (simp [entryFrame, mkF, argsToLocals, Value.category]; done) | rfl) ?_
  intro p e s m below meth c T vm C X Y
  change Cx p (s.setVm vm) m meth c Z "com/example/jetway/jetway/ValidatorsStatesVersionPinLaw" method_2_code 4 (some (.object "java/lang/String")) "pick" at C
  refine g_iloadN C X d1_0 (q := 1) rfl rfl ?_
  by_cases hc1 : p0 = (0 : Int32)
  · refine g_ifN C X d1_1 (q := 4) rfl (teq hc1).2 ?_
    refine g_aconstNull C X d1_4 (q := 5) rfl ?_
    exact gW_retA C X Y (own_EL hw) rfl rfl d1_5 (by decide) (by decide) ⟨_, rfl, (Keep.refl h0 []), Or.inl rfl⟩
  · refine g_ifY C X d1_1 (by decide) (q := 6) (by decide) (feq hc1).2 ?_
    refine g_iloadN C X d1_6 (q := 7) rfl rfl ?_
    refine g_iconst C X d1_7 (q := 8) rfl (z := (1 : Int32)) rfl ?_
    by_cases hc2 : p0 = (1 : Int32)
    · refine g_icN C X d1_8 (q := 11) rfl (teq hc2).2 ?_
      refine g_new C X (w31 hw) (w32 hw) (w33 hw) d1_11 (q := 14) rfl (k' := 1) rfl (n' := 4) rfl (by decide) (by decide) ?_
      intro T4 h5 b3 g7 X6 E8 A9 D10
      have ge11 : n0 ≤ b3 := own_ge O g7
      have sf12 := Wx.safe0 Y (Nat.le_of_eq g7.symm)
      have Y13 := Wx.ext Y E8
      have O14 := O.ext E8
      have f15 : Fld Z h5 b3 "java/lang/String" "coder" "B" (.int (0 : Int32)) := D10 (Or.inr (w56 hw)) (ty := .byte) (by decide)
      have f16 : Fld Z h5 b3 "java/lang/String" "value" "[B" .null := D10 (Or.inr (w58 hw)) (ty := (.array .byte)) (by decide)
      refine g_dup C X6 d1_14 (q := 15) rfl rfl ?_
      refine g_iconst C X6 d1_15 (q := 16) rfl (z := (0 : Int32)) rfl ?_
      refine g_newP C X6 (w34 hw) rfl d1_16 (q := 18) rfl (by decide) (cap := 0) (by decide) (by decide) (k' := 2) rfl (n' := 4) rfl (by decide) (by decide) ?_
      intro T18 h19 kA20 b17 g22 X21 E23 V24
      have ge25 : n0 ≤ b17 := own_ge O14 g22
      have Y26 := Wx.ext Y13 E23
      have O27 := O14.ext E23
      have Y28 := Yar.of V24
      have f29 := (A9.ext E23)
      have f30 := (f16.ext E23)
      have f31 := (f15.ext E23)
      refine gW_callI0 C X21 Y26 (own_EL hw) (y := (⟨"java/lang/String", "<init>", "([C)V"⟩ : MethodName)) (a := b3) (by decide) rfl rfl (w35 hw) (w36 hw) (w37 hw) (w33 hw) (rm_str1_0 hw (o0 := b3) (o1 := b17) (kc2 := kA20) O27 W f29 f31 f30 V24 ge11 ge25 (own_ne A9.lt g22)) (W := 1) (by decide) (by decide) (k' := 6) rfl (n' := 12) rfl (by decide) (by decide) rfl pd_35 (argsL := [(.ref b17)]) rfl (rest := [(.ref b3)]) rfl rfl rfl d1_18 (q := 21) rfl ?_
      rintro T32 h34 vm38 C X33 Y39 R40 ⟨K35, f36, f37⟩
      have O41 := O27.keep K35 (allS ge11 all0)
      exact gW_retA C X33 Y39 (own_EL hw) rfl rfl d1_21 (by decide) (by decide) ⟨_, rfl, ((((Keep.refl h0 []).ext E8).ext E23).trans K35 (allS (Or.inr (own_sz (Keep.refl h0 []).1 g7)) all0)), Or.inr ⟨b3, _, rfl, ge11, (own_sz (Keep.refl h0 []).1 g7), f36, f37, Or.inl rfl⟩⟩
    · refine g_icY C X d1_8 (by decide) (q := 22) (by decide) (feq hc2).2 ?_
      refine g_iloadN C X d1_22 (q := 23) rfl rfl ?_
      refine g_iconst C X d1_23 (q := 24) rfl (z := (2 : Int32)) rfl ?_
      by_cases hc42 : p0 = (2 : Int32)
      · refine g_icN C X d1_24 (q := 27) rfl (teq hc42).2 ?_
        refine g_new C X (w31 hw) (w32 hw) (w33 hw) d1_27 (q := 30) rfl (k' := 1) rfl (n' := 4) rfl (by decide) (by decide) ?_
        intro T44 h45 b43 g47 X46 E48 A49 D50
        have ge51 : n0 ≤ b43 := own_ge O g47
        have sf52 := Wx.safe0 Y (Nat.le_of_eq g47.symm)
        have Y53 := Wx.ext Y E48
        have O54 := O.ext E48
        have f55 : Fld Z h45 b43 "java/lang/String" "coder" "B" (.int (0 : Int32)) := D50 (Or.inr (w56 hw)) (ty := .byte) (by decide)
        have f56 : Fld Z h45 b43 "java/lang/String" "value" "[B" .null := D50 (Or.inr (w58 hw)) (ty := (.array .byte)) (by decide)
        refine g_dup C X46 d1_30 (q := 31) rfl rfl ?_
        refine g_iconst C X46 d1_31 (q := 32) rfl (z := (2 : Int32)) rfl ?_
        refine g_newP C X46 (w34 hw) rfl d1_32 (q := 34) rfl (by decide) (cap := 2) (by decide) (by decide) (k' := 2) rfl (n' := 6) rfl (by decide) (by decide) ?_
        intro T58 h59 kA60 b57 g62 X61 E63 V64
        have ge65 : n0 ≤ b57 := own_ge O54 g62
        have Y66 := Wx.ext Y53 E63
        have O67 := O54.ext E63
        have V68 : Arv Z h59 b57 kA60 .char (2 : Int32) [(.int (0 : Int32)), (.int (0 : Int32))] (.int (0 : Int32)) := Arv.pad V64 (pad_rep [] _ 2)
        have Y69 := Yar.of V68
        refine g_dup C X61 d1_34 (q := 35) rfl rfl ?_
        refine g_iconst C X61 d1_35 (q := 36) rfl (z := (0 : Int32)) rfl ?_
        refine g_iloadN C X61 d1_36 (q := 37) rfl rfl ?_
        refine g_castore C X61 V68 (by decide) (i := 0) (by decide) (Nat.le_of_ble_eq_true rfl) (vs' := [(.int p1), (.int (0 : Int32))]) (by rw [own_narC l1 u1 (by decide) (by decide)]; rfl) ge65 d1_37 (q := 38) rfl ?_
        intro T70 h71 X72 W73 V74
        have Y75 := Wx.wr Y66 W73 (own_safeY (Cx.alike C) Y69 (by decide))
        have O76 := O67.wr W73 ge65
        refine g_dup C X72 d1_38 (q := 39) rfl rfl ?_
        refine g_iconst C X72 d1_39 (q := 40) rfl (z := (1 : Int32)) rfl ?_
        refine g_iloadN C X72 d1_40 (q := 41) rfl rfl ?_
        refine g_castore C X72 V74 (by decide) (i := 1) (by decide) (Nat.le_of_ble_eq_true rfl) (vs' := [(.int p1), (.int p2)]) (by rw [own_narC l2 u2 (by decide) (by decide)]; rfl) ge65 d1_41 (q := 42) rfl ?_
        intro T77 h78 X79 W80 V81
        have f82 := (Y69.wr W73)
        have Y83 := Wx.wr Y75 W80 (own_safeY (Cx.alike C) f82 (by decide))
        have O84 := O76.wr W80 ge65
        have f85 := (((A49.ext E63).wr W73).wr W80)
        have f86 := (((f56.ext E63).other W73 (Or.inl (own_ne A49.lt g62))).other W80 (Or.inl (own_ne A49.lt g62)))
        have f87 := (((f55.ext E63).other W73 (Or.inl (own_ne A49.lt g62))).other W80 (Or.inl (own_ne A49.lt g62)))
        refine g_strNew C X79 (cs := [p1, p2]) (own_words hw) (w32 hw) (w35 hw) (w36 hw) f85 f86 f87 V81 (W.1.ext O84.2) W.2.1 (len := 2) rfl rfl (by decide) (by decide) (List.forall_mem_cons.mpr ⟨(own_ch l1 u1 (by decide) (by decide)), (List.forall_mem_cons.mpr ⟨(own_ch l2 u2 (by decide) (by decide)), (fun _ z => nomatch z)⟩)⟩) ge51 (own_szO O84) (W := 1) (by decide) (by decide) (k' := 3) rfl (n' := 8) rfl (by decide) (by decide) rfl rfl d1_42 (q := 45) rfl ?_
        intro T88 h89 X90 K91 F92
        have Y93 := Wx.keep Y83 K91 (sfS (Wx.safeW Y75 (Wx.safeW Y66 (Wx.safeE Y53 (Wx.safeE Y sf52 E48) E63) W73 (own_safeY (Cx.alike C) Y69 (by decide))) W80 (own_safeY (Cx.alike C) f82 (by decide))) sf0)
        have O94 := O84.keep K91 (allS ge51 all0)
        have f95 := (f85.keep K91)
        exact gW_retA C X90 Y93 (own_EL hw) rfl rfl d1_45 (by decide) (by decide) ⟨_, rfl, ((((((Keep.refl h0 []).ext E48).ext E63).wr W73 (Or.inr (own_sz ((Keep.refl h0 []).ext E48).1 g62))).wr W80 (Or.inr (own_sz ((Keep.refl h0 []).ext E48).1 g62))).trans K91 (allS (Or.inr (own_sz (Keep.refl h0 []).1 g47)) all0)), Or.inr ⟨b43, _, rfl, ge51, (own_sz (Keep.refl h0 []).1 g47), f95, F92, Or.inr (Or.inl rfl)⟩⟩
      · refine g_icY C X d1_24 (by decide) (q := 46) (by decide) (feq hc42).2 ?_
        refine g_new C X (w31 hw) (w32 hw) (w33 hw) d1_46 (q := 49) rfl (k' := 1) rfl (n' := 4) rfl (by decide) (by decide) ?_
        intro T97 h98 b96 g100 X99 E101 A102 D103
        have ge104 : n0 ≤ b96 := own_ge O g100
        have sf105 := Wx.safe0 Y (Nat.le_of_eq g100.symm)
        have Y106 := Wx.ext Y E101
        have O107 := O.ext E101
        have f108 : Fld Z h98 b96 "java/lang/String" "coder" "B" (.int (0 : Int32)) := D103 (Or.inr (w56 hw)) (ty := .byte) (by decide)
        have f109 : Fld Z h98 b96 "java/lang/String" "value" "[B" .null := D103 (Or.inr (w58 hw)) (ty := (.array .byte)) (by decide)
        refine g_dup C X99 d1_49 (q := 50) rfl rfl ?_
        refine g_iconst C X99 d1_50 (q := 51) rfl (z := (3 : Int32)) rfl ?_
        refine g_newP C X99 (w34 hw) rfl d1_51 (q := 53) rfl (by decide) (cap := 3) (by decide) (by decide) (k' := 2) rfl (n' := 7) rfl (by decide) (by decide) ?_
        intro T111 h112 kA113 b110 g115 X114 E116 V117
        have ge118 : n0 ≤ b110 := own_ge O107 g115
        have Y119 := Wx.ext Y106 E116
        have O120 := O107.ext E116
        have V121 : Arv Z h112 b110 kA113 .char (3 : Int32) [(.int (0 : Int32)), (.int (0 : Int32)), (.int (0 : Int32))] (.int (0 : Int32)) := Arv.pad V117 (pad_rep [] _ 3)
        have Y122 := Yar.of V121
        refine g_dup C X114 d1_53 (q := 54) rfl rfl ?_
        refine g_iconst C X114 d1_54 (q := 55) rfl (z := (0 : Int32)) rfl ?_
        refine g_iloadN C X114 d1_55 (q := 56) rfl rfl ?_
        refine g_castore C X114 V121 (by decide) (i := 0) (by decide) (Nat.le_of_ble_eq_true rfl) (vs' := [(.int p1), (.int (0 : Int32)), (.int (0 : Int32))]) (by rw [own_narC l1 u1 (by decide) (by decide)]; rfl) ge118 d1_56 (q := 57) rfl ?_
        intro T123 h124 X125 W126 V127
        have Y128 := Wx.wr Y119 W126 (own_safeY (Cx.alike C) Y122 (by decide))
        have O129 := O120.wr W126 ge118
        refine g_dup C X125 d1_57 (q := 58) rfl rfl ?_
        refine g_iconst C X125 d1_58 (q := 59) rfl (z := (1 : Int32)) rfl ?_
        refine g_iloadN C X125 d1_59 (q := 60) rfl rfl ?_
        refine g_castore C X125 V127 (by decide) (i := 1) (by decide) (Nat.le_of_ble_eq_true rfl) (vs' := [(.int p1), (.int p2), (.int (0 : Int32))]) (by rw [own_narC l2 u2 (by decide) (by decide)]; rfl) ge118 d1_60 (q := 61) rfl ?_
        intro T130 h131 X132 W133 V134
        have f135 := (Y122.wr W126)
        have Y136 := Wx.wr Y128 W133 (own_safeY (Cx.alike C) f135 (by decide))
        have O137 := O129.wr W133 ge118
        refine g_dup C X132 d1_61 (q := 62) rfl rfl ?_
        refine g_iconst C X132 d1_62 (q := 63) rfl (z := (2 : Int32)) rfl ?_
        refine g_iloadN C X132 d1_63 (q := 64) rfl rfl ?_
        refine g_castore C X132 V134 (by decide) (i := 2) (by decide) (Nat.le_of_ble_eq_true rfl) (vs' := [(.int p1), (.int p2), (.int p3)]) (by rw [own_narC l3 u3 (by decide) (by decide)]; rfl) ge118 d1_64 (q := 65) rfl ?_
        intro T138 h139 X140 W141 V142
        have f143 := (f135.wr W133)
        have Y144 := Wx.wr Y136 W141 (own_safeY (Cx.alike C) f143 (by decide))
        have O145 := O137.wr W141 ge118
        have f146 := ((((A102.ext E116).wr W126).wr W133).wr W141)
        have f147 := ((((f109.ext E116).other W126 (Or.inl (own_ne A102.lt g115))).other W133 (Or.inl (own_ne A102.lt g115))).other W141 (Or.inl (own_ne A102.lt g115)))
        have f148 := ((((f108.ext E116).other W126 (Or.inl (own_ne A102.lt g115))).other W133 (Or.inl (own_ne A102.lt g115))).other W141 (Or.inl (own_ne A102.lt g115)))
        refine g_strNew C X140 (cs := [p1, p2, p3]) (own_words hw) (w32 hw) (w35 hw) (w36 hw) f146 f147 f148 V142 (W.1.ext O145.2) W.2.1 (len := 3) rfl rfl (by decide) (by decide) (List.forall_mem_cons.mpr ⟨(own_ch l1 u1 (by decide) (by decide)), (List.forall_mem_cons.mpr ⟨(own_ch l2 u2 (by decide) (by decide)), (List.forall_mem_cons.mpr ⟨(own_ch l3 u3 (by decide) (by decide)), (fun _ z => nomatch z)⟩)⟩)⟩) ge104 (own_szO O145) (W := 1) (by decide) (by decide) (k' := 3) rfl (n' := 10) rfl (by decide) (by decide) rfl rfl d1_65 (q := 68) rfl ?_
        intro T149 h150 X151 K152 F153
        have Y154 := Wx.keep Y144 K152 (sfS (Wx.safeW Y136 (Wx.safeW Y128 (Wx.safeW Y119 (Wx.safeE Y106 (Wx.safeE Y sf105 E101) E116) W126 (own_safeY (Cx.alike C) Y122 (by decide))) W133 (own_safeY (Cx.alike C) f135 (by decide))) W141 (own_safeY (Cx.alike C) f143 (by decide))) sf0)
        have O155 := O145.keep K152 (allS ge104 all0)
        have f156 := (f146.keep K152)
        exact gW_retA C X151 Y154 (own_EL hw) rfl rfl d1_68 (by decide) (by decide) ⟨_, rfl, (((((((Keep.refl h0 []).ext E101).ext E116).wr W126 (Or.inr (own_sz ((Keep.refl h0 []).ext E101).1 g115))).wr W133 (Or.inr (own_sz ((Keep.refl h0 []).ext E101).1 g115))).wr W141 (Or.inr (own_sz ((Keep.refl h0 []).ext E101).1 g115))).trans K152 (allS (Or.inr (own_sz (Keep.refl h0 []).1 g100)) all0)), Or.inr ⟨b96, _, rfl, ge104, (own_sz (Keep.refl h0 []).1 g100), f156, F153, Or.inr (Or.inr rfl)⟩⟩
set_option maxRecDepth 65536 in
set_option maxHeartbeats 40000000 in
theorem rm_rec_0 {l : Launch} {Z : State} {a0 : Array Value} (hw : ∀ d ∈ tables_1, d.before a0 Z = true) {cz : Int32} {fm : Value} {o0 : Addr} {h0 : Heap} {n0 : Nat} (O : Old Z n0 h0) (W : Wd Z cz fm)  (P0 : Exa Z h0 o0 "com/example/jetway/jetway/Fetcher$Validators") (P1 : Fld Z h0 o0 "com/example/jetway/jetway/Fetcher$Validators" "lastModified" "Ljava/lang/String;" .null) (P2 : Fld Z h0 o0 "com/example/jetway/jetway/Fetcher$Validators" "entityTag" "Ljava/lang/String;" .null) (P3 : Fld Z h0 o0 "com/example/jetway/jetway/Fetcher$Validators" "length" "J" (.long (0 : Int64))) (P4 : Fld Z h0 o0 "com/example/jetway/jetway/Fetcher$Validators" "versionId" "Ljava/lang/String;" .null) (G0 : n0 ≤ o0) :
    Met0 l Z (⟨"java/lang/Record", "<init>", "()V"⟩ : MethodName) jdk_30_method_1_code 1 none ({ frames := 1, cells := 0, slots := 0, locals := 12 } : Room) #[(.ref o0)] h0 n0 (fun h => h0 = h) := by
  refine met_of (L := #[.val (.ref o0)]) (plainFor_of_name pn_79) (fun m => by first | (simp [entryFrame, mkF, argsToLocals, Value.category]; done) | rfl) ?_
  intro p e s m below meth c T C X
  change Cx p s m meth c Z "java/lang/Record" jdk_30_method_1_code 1 none "<init>" at C
  refine g_aloadN C X d3_0 (q := 1) rfl rfl rfl ?_
  refine g_initO C X (w15 hw) (w16 hw) (w17 hw) rfl d3_1 (q := 4) rfl (by decide) (by decide) ?_
  intro T1 X2
  exact g_retV C X2 d3_4 (by decide) (by decide) ⟨rfl, rfl⟩
set_option maxRecDepth 65536 in
set_option maxHeartbeats 40000000 in
theorem rm_init_0 {l : Launch} {Z : State} {a0 : Array Value} (hw : ∀ d ∈ tables_1, d.before a0 Z = true) {cz : Int32} {fm : Value} {o0 : Addr} {av1 : Value} {j2 : Int64} {av3 : Value} {h0 : Heap} {n0 : Nat} (O : Old Z n0 h0) (W : Wd Z cz fm)  (P0 : Exa Z h0 o0 "com/example/jetway/jetway/Fetcher$Validators") (P1 : Fld Z h0 o0 "com/example/jetway/jetway/Fetcher$Validators" "lastModified" "Ljava/lang/String;" .null) (P2 : Fld Z h0 o0 "com/example/jetway/jetway/Fetcher$Validators" "entityTag" "Ljava/lang/String;" .null) (P3 : Fld Z h0 o0 "com/example/jetway/jetway/Fetcher$Validators" "length" "J" (.long (0 : Int64))) (P4 : Fld Z h0 o0 "com/example/jetway/jetway/Fetcher$Validators" "versionId" "Ljava/lang/String;" .null) (G0 : n0 ≤ o0) (Q0 : av1.isRef = true) (Q1 : av3.isRef = true) :
    MetW0 l Z consts_1 (⟨"com/example/jetway/jetway/Fetcher$Validators", "<init>", "(Ljava/lang/String;Ljava/lang/String;JLjava/lang/String;)V"⟩ : MethodName) prog_37_method_1_code 6 none ({ frames := 2, cells := 0, slots := 0, locals := 24 } : Room) #[(.ref o0), av1, .null, (.long j2), av3] h0 n0 (fun h => Keep h0 h [o0] ∧ Exa Z h o0 "com/example/jetway/jetway/Fetcher$Validators" ∧ Fld Z h o0 "com/example/jetway/jetway/Fetcher$Validators" "lastModified" "Ljava/lang/String;" av1 ∧ Fld Z h o0 "com/example/jetway/jetway/Fetcher$Validators" "entityTag" "Ljava/lang/String;" .null ∧ Fld Z h o0 "com/example/jetway/jetway/Fetcher$Validators" "length" "J" (.long j2) ∧ Fld Z h o0 "com/example/jetway/jetway/Fetcher$Validators" "versionId" "Ljava/lang/String;" av3) := by
  refine metW_of (L := #[.val (.ref o0), .val av1, .val .null, .val (.long j2), .second, .val av3]) (plainFor_of_name pn_96) (fun m => by (cases av1 <;> first | exact absurd Q0 Bool.false_ne_true | skip) <;> (cases av3 <;> first | exact absurd Q1 Bool.false_ne_true | skip) <;> first | (simp [entryFrame, mkF, argsToLocals, Value.category]; done) | rfl) ?_
  intro p e s m below meth c T vm C X Y
  change Cx p (s.setVm vm) m meth c Z "com/example/jetway/jetway/Fetcher$Validators" prog_37_method_1_code 6 none "<init>" at C
  refine g_aloadN C X d2_0 (q := 1) rfl rfl rfl ?_
  refine g_callI0 C X (y := (⟨"java/lang/Record", "<init>", "()V"⟩ : MethodName)) (a := o0) (by decide) rfl (w10 hw) (w11 hw) (w14 hw) (w13 hw) (rm_rec_0 hw (o0 := o0) O W P0 P1 P2 P3 P4 G0) (W := 0) (by decide) (by decide) (k' := 0) rfl (n' := 0) rfl (by decide) (by decide) rfl pd_80 (argsL := []) rfl (rest := []) rfl rfl rfl d2_1 (q := 4) rfl ?_
  rintro T1 _ X2 rfl
  refine g_aloadN C X2 d2_4 (q := 5) rfl rfl rfl ?_
  refine g_nulY C X2 d2_5 (by decide) (q := 19) (by decide) ?_
  refine g_aloadN C X2 d2_19 (q := 20) rfl rfl rfl ?_
  refine g_aloadN C X2 d2_20 (q := 21) rfl rfl Q0 ?_
  refine g_putF C X2 (host := "") (Or.inl (w18 hw)) Via.refl P1 P0 (Or.inr ⟨(w19 hw), rfl, rfl⟩) (w5 hw) (ty := (.object "java/lang/String")) (by decide) (own_narR Q0) (own_fitR Q0) d2_21 (q := 24) rfl G0 ?_
  intro T3 h5 X4 W6
  have FW6 := Fld.same W6 P1
  have Y7 := Wx.wr Y W6 (Safe.exa (Cx.alike C) P0 (by decide) (by decide))
  have O8 := O.wr W6 G0
  refine g_aloadN C X4 d2_24 (q := 25) rfl rfl rfl ?_
  refine g_aloadN C X4 d2_25 (q := 26) rfl rfl rfl ?_
  have f9 := (P2.other W6 (Or.inr (slot_ne (Or.inr (w21 hw)) (Or.inr (w19 hw)) (by decide) (t := (.object "java/lang/String")) (t' := (.object "java/lang/String")) (by decide) (by decide))))
  have f10 := (P0.wr W6)
  refine g_putF C X4 (host := "") (Or.inl (w20 hw)) Via.refl f9 f10 (Or.inr ⟨(w21 hw), rfl, rfl⟩) (w5 hw) (ty := (.object "java/lang/String")) (by decide) rfl rfl d2_26 (q := 29) rfl G0 ?_
  intro T11 h13 X12 W14
  have FW14 := Fld.same W14 f9
  have Y15 := Wx.wr Y7 W14 (Safe.exa (Cx.alike C) f10 (by decide) (by decide))
  have O16 := O8.wr W14 G0
  refine g_aloadN C X12 d2_29 (q := 30) rfl rfl rfl ?_
  refine g_lloadN C X12 d2_30 (q := 31) rfl rfl ?_
  have f17 := ((P3.other W6 (Or.inr (slot_ne (Or.inr (w23 hw)) (Or.inr (w19 hw)) (by decide) (t := .long) (t' := (.object "java/lang/String")) (by decide) (by decide)))).other W14 (Or.inr (slot_ne (Or.inr (w23 hw)) (Or.inr (w21 hw)) (by decide) (t := .long) (t' := (.object "java/lang/String")) (by decide) (by decide))))
  have f18 := (f10.wr W14)
  refine g_putF C X12 (host := "") (Or.inl (w22 hw)) Via.refl f17 f18 (Or.inr ⟨(w23 hw), rfl, rfl⟩) (w5 hw) (ty := .long) (by decide) rfl rfl d2_31 (q := 34) rfl G0 ?_
  intro T19 h21 X20 W22
  have FW22 := Fld.same W22 f17
  have Y23 := Wx.wr Y15 W22 (Safe.exa (Cx.alike C) f18 (by decide) (by decide))
  have O24 := O16.wr W22 G0
  refine g_aloadN C X20 d2_34 (q := 35) rfl rfl rfl ?_
  refine g_aload C X20 d2_35 (q := 37) rfl rfl Q1 ?_
  have f25 := (((P4.other W6 (Or.inr (slot_ne (Or.inr (w25 hw)) (Or.inr (w19 hw)) (by decide) (t := (.object "java/lang/String")) (t' := (.object "java/lang/String")) (by decide) (by decide)))).other W14 (Or.inr (slot_ne (Or.inr (w25 hw)) (Or.inr (w21 hw)) (by decide) (t := (.object "java/lang/String")) (t' := (.object "java/lang/String")) (by decide) (by decide)))).other W22 (Or.inr (slot_ne (Or.inr (w25 hw)) (Or.inr (w23 hw)) (by decide) (t := (.object "java/lang/String")) (t' := .long) (by decide) (by decide))))
  have f26 := (f18.wr W22)
  refine g_putF C X20 (host := "") (Or.inl (w24 hw)) Via.refl f25 f26 (Or.inr ⟨(w25 hw), rfl, rfl⟩) (w5 hw) (ty := (.object "java/lang/String")) (by decide) (own_narR Q1) (own_fitR Q1) d2_37 (q := 40) rfl G0 ?_
  intro T27 h29 X28 W30
  have FW30 := Fld.same W30 f25
  have Y31 := Wx.wr Y23 W30 (Safe.exa (Cx.alike C) f26 (by decide) (by decide))
  have O32 := O24.wr W30 G0
  exact gW_retV C X28 Y31 (own_EL hw) d2_40 (by decide) (by decide) ⟨rfl, (((((Keep.refl h0 [o0]).wr W6 (Or.inl (List.mem_of_getElem? (i := 0) rfl))).wr W14 (Or.inl (List.mem_of_getElem? (i := 0) rfl))).wr W22 (Or.inl (List.mem_of_getElem? (i := 0) rfl))).wr W30 (Or.inl (List.mem_of_getElem? (i := 0) rfl))), (f26.wr W30), (((FW6.other W14 (Or.inr (slot_ne (Or.inr (w19 hw)) (Or.inr (w21 hw)) (by decide) (t := (.object "java/lang/String")) (t' := (.object "java/lang/String")) (by decide) (by decide)))).other W22 (Or.inr (slot_ne (Or.inr (w19 hw)) (Or.inr (w23 hw)) (by decide) (t := (.object "java/lang/String")) (t' := .long) (by decide) (by decide)))).other W30 (Or.inr (slot_ne (Or.inr (w19 hw)) (Or.inr (w25 hw)) (by decide) (t := (.object "java/lang/String")) (t' := (.object "java/lang/String")) (by decide) (by decide)))), ((FW14.other W22 (Or.inr (slot_ne (Or.inr (w21 hw)) (Or.inr (w23 hw)) (by decide) (t := (.object "java/lang/String")) (t' := .long) (by decide) (by decide)))).other W30 (Or.inr (slot_ne (Or.inr (w21 hw)) (Or.inr (w25 hw)) (by decide) (t := (.object "java/lang/String")) (t' := (.object "java/lang/String")) (by decide) (by decide)))), (FW22.other W30 (Or.inr (slot_ne (Or.inr (w23 hw)) (Or.inr (w25 hw)) (by decide) (t := .long) (t' := (.object "java/lang/String")) (by decide) (by decide)))), FW30⟩
set_option maxRecDepth 65536 in
set_option maxHeartbeats 40000000 in
theorem rm_st_0 {l : Launch} {Z : State} {a0 : Array Value} (hw : ∀ d ∈ tables_1, d.before a0 Z = true) {cz : Int32} {fm : Value} {o0 : Addr} {j1 : Int64} {h0 : Heap} {n0 : Nat} (O : Old Z n0 h0) (W : Wd Z cz fm)  (P0 : Exa Z h0 o0 "com/example/jetway/jetway/Fetcher$Validators") (P1 : Fld Z h0 o0 "com/example/jetway/jetway/Fetcher$Validators" "lastModified" "Ljava/lang/String;" .null) (P2 : Fld Z h0 o0 "com/example/jetway/jetway/Fetcher$Validators" "entityTag" "Ljava/lang/String;" .null) (P3 : Fld Z h0 o0 "com/example/jetway/jetway/Fetcher$Validators" "length" "J" (.long j1)) (P4 : Fld Z h0 o0 "com/example/jetway/jetway/Fetcher$Validators" "versionId" "Ljava/lang/String;" .null) (G0 : n0 ≤ o0) :
    Met1 l Z (⟨"com/example/jetway/jetway/Fetcher$Validators", "statesVersion", "()Z"⟩ : MethodName) prog_37_method_2_code 1 (some .boolean) ({ frames := 0, cells := 0, slots := 0, locals := 0 } : Room) #[(.ref o0)] h0 n0 (fun v h => v = (.int (0 : Int32)) ∧ h0 = h) := by
  refine met_of (L := #[.val (.ref o0)]) (plainFor_of_name pn_96) (fun m => by first | (simp [entryFrame, mkF, argsToLocals, Value.category]; done) | rfl) ?_
  intro p e s m below meth c T C X
  change Cx p s m meth c Z "com/example/jetway/jetway/Fetcher$Validators" prog_37_method_2_code 1 (some .boolean) "statesVersion" at C
  refine g_aloadN C X d5_0 (q := 1) rfl rfl rfl ?_
  refine g_getF C X (host := "") (Or.inl (w24 hw)) Via.refl P4 d5_1 (q := 4) rfl ?_
  intro T1 X2
  refine g_nonN C X2 d5_4 (q := 7) rfl ?_
  refine g_aloadN C X2 d5_7 (q := 8) rfl rfl rfl ?_
  refine g_getF C X2 (host := "") (Or.inl (w20 hw)) Via.refl P2 d5_8 (q := 11) rfl ?_
  intro T3 X4
  refine g_nonN C X4 d5_11 (q := 14) rfl ?_
  refine g_aloadN C X4 d5_14 (q := 15) rfl rfl rfl ?_
  refine g_getF C X4 (host := "") (Or.inl (w18 hw)) Via.refl P1 d5_15 (q := 18) rfl ?_
  intro T5 X6
  refine g_nulY C X6 d5_18 (by decide) (q := 25) (by decide) ?_
  refine g_iconst C X6 d5_25 (q := 26) rfl (z := (0 : Int32)) rfl ?_
  exact g_retN C X6 (Or.inl rfl) (z' := (0 : Int32)) (by decide) d5_26 (by decide) (by decide) ⟨_, rfl, rfl, rfl⟩
set_option maxRecDepth 65536 in
set_option maxHeartbeats 40000000 in
theorem rm_st_1 {l : Launch} {Z : State} {a0 : Array Value} (hw : ∀ d ∈ tables_1, d.before a0 Z = true) {cz : Int32} {fm : Value} {o0 : Addr} {o1 : Addr} {j2 : Int64} {h0 : Heap} {n0 : Nat} (O : Old Z n0 h0) (W : Wd Z cz fm)  (P0 : Exa Z h0 o0 "com/example/jetway/jetway/Fetcher$Validators") (P1 : Fld Z h0 o0 "com/example/jetway/jetway/Fetcher$Validators" "lastModified" "Ljava/lang/String;" (.ref o1)) (P2 : Fld Z h0 o0 "com/example/jetway/jetway/Fetcher$Validators" "entityTag" "Ljava/lang/String;" .null) (P3 : Fld Z h0 o0 "com/example/jetway/jetway/Fetcher$Validators" "length" "J" (.long j2)) (P4 : Fld Z h0 o0 "com/example/jetway/jetway/Fetcher$Validators" "versionId" "Ljava/lang/String;" .null) (G0 : n0 ≤ o0) :
    Met1 l Z (⟨"com/example/jetway/jetway/Fetcher$Validators", "statesVersion", "()Z"⟩ : MethodName) prog_37_method_2_code 1 (some .boolean) ({ frames := 0, cells := 0, slots := 0, locals := 0 } : Room) #[(.ref o0)] h0 n0 (fun v h => v = (.int (1 : Int32)) ∧ h0 = h) := by
  refine met_of (L := #[.val (.ref o0)]) (plainFor_of_name pn_96) (fun m => by first | (simp [entryFrame, mkF, argsToLocals, Value.category]; done) | rfl) ?_
  intro p e s m below meth c T C X
  change Cx p s m meth c Z "com/example/jetway/jetway/Fetcher$Validators" prog_37_method_2_code 1 (some .boolean) "statesVersion" at C
  refine g_aloadN C X d5_0 (q := 1) rfl rfl rfl ?_
  refine g_getF C X (host := "") (Or.inl (w24 hw)) Via.refl P4 d5_1 (q := 4) rfl ?_
  intro T1 X2
  refine g_nonN C X2 d5_4 (q := 7) rfl ?_
  refine g_aloadN C X2 d5_7 (q := 8) rfl rfl rfl ?_
  refine g_getF C X2 (host := "") (Or.inl (w20 hw)) Via.refl P2 d5_8 (q := 11) rfl ?_
  intro T3 X4
  refine g_nonN C X4 d5_11 (q := 14) rfl ?_
  refine g_aloadN C X4 d5_14 (q := 15) rfl rfl rfl ?_
  refine g_getF C X4 (host := "") (Or.inl (w18 hw)) Via.refl P1 d5_15 (q := 18) rfl ?_
  intro T5 X6
  refine g_nulN C X6 d5_18 (q := 21) rfl ?_
  refine g_iconst C X6 d5_21 (q := 22) rfl (z := (1 : Int32)) rfl ?_
  refine g_goto C X6 d5_22 (by decide) (q := 26) (by decide) ?_
  exact g_retN C X6 (Or.inl rfl) (z' := (1 : Int32)) (by decide) d5_26 (by decide) (by decide) ⟨_, rfl, rfl, rfl⟩
set_option maxRecDepth 65536 in
set_option maxHeartbeats 40000000 in
theorem rm_st_2 {l : Launch} {Z : State} {a0 : Array Value} (hw : ∀ d ∈ tables_1, d.before a0 Z = true) {cz : Int32} {fm : Value} {o0 : Addr} {av1 : Value} {j2 : Int64} {o3 : Addr} {h0 : Heap} {n0 : Nat} (O : Old Z n0 h0) (W : Wd Z cz fm)  (P0 : Exa Z h0 o0 "com/example/jetway/jetway/Fetcher$Validators") (P1 : Fld Z h0 o0 "com/example/jetway/jetway/Fetcher$Validators" "lastModified" "Ljava/lang/String;" av1) (P2 : Fld Z h0 o0 "com/example/jetway/jetway/Fetcher$Validators" "entityTag" "Ljava/lang/String;" .null) (P3 : Fld Z h0 o0 "com/example/jetway/jetway/Fetcher$Validators" "length" "J" (.long j2)) (P4 : Fld Z h0 o0 "com/example/jetway/jetway/Fetcher$Validators" "versionId" "Ljava/lang/String;" (.ref o3)) (G0 : n0 ≤ o0) (Q0 : av1.isRef = true) :
    Met1 l Z (⟨"com/example/jetway/jetway/Fetcher$Validators", "statesVersion", "()Z"⟩ : MethodName) prog_37_method_2_code 1 (some .boolean) ({ frames := 0, cells := 0, slots := 0, locals := 0 } : Room) #[(.ref o0)] h0 n0 (fun v h => v = (.int (1 : Int32)) ∧ h0 = h) := by
  refine met_of (L := #[.val (.ref o0)]) (plainFor_of_name pn_96) (fun m => by first | (simp [entryFrame, mkF, argsToLocals, Value.category]; done) | rfl) ?_
  intro p e s m below meth c T C X
  change Cx p s m meth c Z "com/example/jetway/jetway/Fetcher$Validators" prog_37_method_2_code 1 (some .boolean) "statesVersion" at C
  refine g_aloadN C X d5_0 (q := 1) rfl rfl rfl ?_
  refine g_getF C X (host := "") (Or.inl (w24 hw)) Via.refl P4 d5_1 (q := 4) rfl ?_
  intro T1 X2
  refine g_nonY C X2 d5_4 (by decide) (q := 21) (by decide) ?_
  refine g_iconst C X2 d5_21 (q := 22) rfl (z := (1 : Int32)) rfl ?_
  refine g_goto C X2 d5_22 (by decide) (q := 26) (by decide) ?_
  exact g_retN C X2 (Or.inl rfl) (z' := (1 : Int32)) (by decide) d5_26 (by decide) (by decide) ⟨_, rfl, rfl, rfl⟩
set_option maxRecDepth 65536 in
set_option maxHeartbeats 40000000 in
theorem rm_sw2_0 {l : Launch} {Z : State} {a0 : Array Value} (hw : ∀ d ∈ tables_1, d.before a0 Z = true) {cz : Int32} {fm : Value} {o0 : Addr} {o1 : Addr} {h0 : Heap} {n0 : Nat} (O : Old Z n0 h0) (W : Wd Z cz fm)  (P0 : Exa Z h0 o0 "java/lang/String") (P1 : Str Z h0 o0 []) (P2 : Exa Z h0 o1 "java/lang/String") (P3 : Str Z h0 o1 [(87 : Int32), (47 : Int32)]) (G0 : n0 ≤ o0) :
    Met1 l Z (⟨"java/lang/String", "startsWith", "(Ljava/lang/String;I)Z"⟩ : MethodName) jdk_42_method_75_code 8 (some .boolean) ({ frames := 2, cells := 0, slots := 0, locals := 27 } : Room) #[(.ref o0), (.ref o1), (.int (0 : Int32))] h0 n0 (fun v h => v = (.int (0 : Int32)) ∧ h0 = h) := by
  refine met_of (L := #[.val (.ref o0), .val (.ref o1), .val (.int (0 : Int32)), .unset, .unset, .unset, .unset, .unset]) (plainFor_of_name pn_32) (fun m => by first | (simp [entryFrame, mkF, argsToLocals, Value.category]; done) | rfl) ?_
  intro p e s m below meth c T C X
  change Cx p s m meth c Z "java/lang/String" jdk_42_method_75_code 8 (some .boolean) "startsWith" at C
  refine g_iloadN C X d12_0 (q := 1) rfl rfl ?_
  refine g_ifN C X d12_1 (q := 4) rfl (by decide) ?_
  refine g_iloadN C X d12_4 (q := 5) rfl rfl ?_
  refine g_aloadN C X d12_5 (q := 6) rfl rfl rfl ?_
  refine g_strLen C X (own_wordsLen hw) (w32 hw) (w72 hw) (w73 hw) (w75 hw) (w74 hw) P1 (W.1.ext O.2) W.2.1 (W := 1) (by decide) (by decide) (by decide) (by decide) rfl rfl d12_6 (q := 9) rfl ?_
  intro T1 X2
  change Goes p e below _ (T1.setTop (mkF m 9 #[.val (.ref o0), .val (.ref o1), .val (.int (0 : Int32)), .unset, .unset, .unset, .unset, .unset] ((.int (0 : Int32)) :: [(.int (0 : Int32))])))
  refine g_aloadN C X2 d12_9 (q := 10) rfl rfl rfl ?_
  refine g_strLen C X2 (own_wordsLen hw) (w32 hw) (w72 hw) (w73 hw) (w75 hw) (w74 hw) P3 (W.1.ext O.2) W.2.1 (W := 2) (by decide) (by decide) (by decide) (by decide) rfl rfl d12_10 (q := 13) rfl ?_
  intro T3 X4
  change Goes p e below _ (T3.setTop (mkF m 13 #[.val (.ref o0), .val (.ref o1), .val (.int (0 : Int32)), .unset, .unset, .unset, .unset, .unset] ((.int (2 : Int32)) :: [(.int (0 : Int32)), (.int (0 : Int32))])))
  refine g_isub C X4 d12_13 (q := 14) rfl (z := (-2 : Int32)) (by decide) ?_
  refine g_icN C X4 d12_14 (q := 17) rfl (by decide) ?_
  refine g_iconst C X4 d12_17 (q := 18) rfl (z := (0 : Int32)) rfl ?_
  exact g_retN C X4 (Or.inl rfl) (z' := (0 : Int32)) (by decide) d12_18 (by decide) (by decide) ⟨_, rfl, rfl, rfl⟩
set_option maxRecDepth 65536 in
set_option maxHeartbeats 40000000 in
theorem rm_sw1_0 {l : Launch} {Z : State} {a0 : Array Value} (hw : ∀ d ∈ tables_1, d.before a0 Z = true) {cz : Int32} {fm : Value} {o0 : Addr} {o1 : Addr} {h0 : Heap} {n0 : Nat} (O : Old Z n0 h0) (W : Wd Z cz fm)  (P0 : Exa Z h0 o0 "java/lang/String") (P1 : Str Z h0 o0 []) (P2 : Exa Z h0 o1 "java/lang/String") (P3 : Str Z h0 o1 [(87 : Int32), (47 : Int32)]) (G0 : n0 ≤ o0) :
    Met1 l Z (⟨"java/lang/String", "startsWith", "(Ljava/lang/String;)Z"⟩ : MethodName) jdk_42_method_76_code 2 (some .boolean) ({ frames := 3, cells := 0, slots := 0, locals := 46 } : Room) #[(.ref o0), (.ref o1)] h0 n0 (fun v h => v = (.int (0 : Int32)) ∧ h0 = h) := by
  refine met_of (L := #[.val (.ref o0), .val (.ref o1)]) (plainFor_of_name pn_32) (fun m => by first | (simp [entryFrame, mkF, argsToLocals, Value.category]; done) | rfl) ?_
  intro p e s m below meth c T C X
  change Cx p s m meth c Z "java/lang/String" jdk_42_method_76_code 2 (some .boolean) "startsWith" at C
  refine g_aloadN C X d11_0 (q := 1) rfl rfl rfl ?_
  refine g_aloadN C X d11_1 (q := 2) rfl rfl rfl ?_
  refine g_iconst C X d11_2 (q := 3) rfl (z := (0 : Int32)) rfl ?_
  refine g_callV1 C X (y := (⟨"java/lang/String", "startsWith", "(Ljava/lang/String;I)Z"⟩ : MethodName)) (z := (⟨"java/lang/String", "startsWith", "(Ljava/lang/String;I)Z"⟩ : MethodName)) (a := o0) (by decide) (w67 hw) (w68 hw) (w70 hw) (w69 hw) (nf_sel (w70 hw)) P0 (w71 hw) (w33 hw) (rm_sw2_0 hw (o0 := o0) (o1 := o1) O W P0 P1 P2 P3 G0) (W := 0) (by decide) (by decide) (k' := 0) rfl (n' := 0) rfl (by decide) (by decide) rfl pd_130 (argsL := [(.ref o1), (.int (0 : Int32))]) rfl (rest := []) rfl rfl rfl d11_3 (q := 6) rfl ?_
  rintro _ T1 _ X2 ⟨rfl, rfl⟩
  exact g_retN C X2 (Or.inl rfl) (z' := (0 : Int32)) (by decide) d11_6 (by decide) (by decide) ⟨_, rfl, rfl, rfl⟩
set_option maxRecDepth 65536 in
set_option maxHeartbeats 40000000 in
theorem rm_init_1 {l : Launch} {Z : State} {a0 : Array Value} (hw : ∀ d ∈ tables_1, d.before a0 Z = true) {cz : Int32} {fm : Value} {o0 : Addr} {o1 : Addr} {av2 : Value} {j3 : Int64} {av4 : Value} {h0 : Heap} {n0 : Nat} (O : Old Z n0 h0) (W : Wd Z cz fm)  (P0 : Exa Z h0 o0 "com/example/jetway/jetway/Fetcher$Validators") (P1 : Fld Z h0 o0 "com/example/jetway/jetway/Fetcher$Validators" "lastModified" "Ljava/lang/String;" .null) (P2 : Fld Z h0 o0 "com/example/jetway/jetway/Fetcher$Validators" "entityTag" "Ljava/lang/String;" .null) (P3 : Fld Z h0 o0 "com/example/jetway/jetway/Fetcher$Validators" "length" "J" (.long (0 : Int64))) (P4 : Fld Z h0 o0 "com/example/jetway/jetway/Fetcher$Validators" "versionId" "Ljava/lang/String;" .null) (P5 : Exa Z h0 o1 "java/lang/String") (P6 : Str Z h0 o1 []) (G0 : n0 ≤ o0) (G1 : n0 ≤ o1) (N0_1 : o0 ≠ o1) (Q0 : av2.isRef = true) (Q1 : av4.isRef = true) :
    MetW0 l Z consts_1 (⟨"com/example/jetway/jetway/Fetcher$Validators", "<init>", "(Ljava/lang/String;Ljava/lang/String;JLjava/lang/String;)V"⟩ : MethodName) prog_37_method_1_code 6 none ({ frames := 4, cells := 2, slots := 12, locals := 59 } : Room) #[(.ref o0), av2, (.ref o1), (.long j3), av4] h0 n0 (fun h => Keep h0 h [o0] ∧ Exa Z h o0 "com/example/jetway/jetway/Fetcher$Validators" ∧ Fld Z h o0 "com/example/jetway/jetway/Fetcher$Validators" "lastModified" "Ljava/lang/String;" av2 ∧ Fld Z h o0 "com/example/jetway/jetway/Fetcher$Validators" "entityTag" "Ljava/lang/String;" (.ref o1) ∧ Fld Z h o0 "com/example/jetway/jetway/Fetcher$Validators" "length" "J" (.long j3) ∧ Fld Z h o0 "com/example/jetway/jetway/Fetcher$Validators" "versionId" "Ljava/lang/String;" av4) := by
  refine metW_of (L := #[.val (.ref o0), .val av2, .val (.ref o1), .val (.long j3), .second, .val av4]) (plainFor_of_name pn_96) (fun m => by (cases av2 <;> first | exact absurd Q0 Bool.false_ne_true | skip) <;> (cases av4 <;> first | exact absurd Q1 Bool.false_ne_true | skip) <;> first | (simp [entryFrame, mkF, argsToLocals, Value.category]; done) | rfl) ?_
  intro p e s m below meth c T vm C X Y
  change Cx p (s.setVm vm) m meth c Z "com/example/jetway/jetway/Fetcher$Validators" prog_37_method_1_code 6 none "<init>" at C
  refine g_aloadN C X d2_0 (q := 1) rfl rfl rfl ?_
  refine g_callI0 C X (y := (⟨"java/lang/Record", "<init>", "()V"⟩ : MethodName)) (a := o0) (by decide) rfl (w10 hw) (w11 hw) (w14 hw) (w13 hw) (rm_rec_0 hw (o0 := o0) O W P0 P1 P2 P3 P4 G0) (W := 0) (by decide) (by decide) (k' := 0) rfl (n' := 0) rfl (by decide) (by decide) rfl pd_80 (argsL := []) rfl (rest := []) rfl rfl rfl d2_1 (q := 4) rfl ?_
  rintro T1 _ X2 rfl
  refine g_aloadN C X2 d2_4 (q := 5) rfl rfl rfl ?_
  refine g_nulN C X2 d2_5 (q := 8) rfl ?_
  refine g_aloadN C X2 d2_8 (q := 9) rfl rfl rfl ?_
  refine gW_ldcC C X2 Y (own_EL hw) (vs := [(.int (87 : Int32)), (.int (47 : Int32))]) (z := 2) (w59 hw) (own_SA hw) (List.mem_of_getElem? (i := 0) rfl) ⟨by decide, by decide +kernel⟩ (by decide) rfl d2_9 (q := 11) rfl (nn := 8) (by decide) (by decide) (k' := 2) rfl (n' := 12) rfl (by decide) (by decide) ?_
  intro b3 b11 kA12 T4 h5 vm6 C X7 Y8 E9 R10 f13 f14 f15 f16 sf17
  have O18 := O.ext E9
  have F19 : Str Z h5 b3 [(87 : Int32), (47 : Int32)] := ⟨b11, kA12, f13, f15, f14, f16, by decide, by decide⟩
  have f20 := (P5.ext E9)
  have f21 := (P6.ext E9)
  refine g_callV1 C X7 (y := (⟨"java/lang/String", "startsWith", "(Ljava/lang/String;)Z"⟩ : MethodName)) (z := (⟨"java/lang/String", "startsWith", "(Ljava/lang/String;)Z"⟩ : MethodName)) (a := o1) (by decide) (w62 hw) (w63 hw) (w65 hw) (w64 hw) (nf_sel (w65 hw)) f20 (w66 hw) (w33 hw) (rm_sw1_0 hw (o0 := o1) (o1 := b3) O18 W f20 f21 f13 F19 G1) (W := 0) (by decide) (by decide) (k' := 2) rfl (n' := 12) rfl (by decide) (by decide) rfl pd_132 (argsL := [(.ref b3)]) rfl (rest := []) rfl rfl rfl d2_11 (q := 14) rfl ?_
  rintro _ T22 _ X23 ⟨rfl, rfl⟩
  refine g_ifY C X23 d2_14 (by decide) (q := 19) (by decide) (by decide) ?_
  refine g_aloadN C X23 d2_19 (q := 20) rfl rfl rfl ?_
  refine g_aloadN C X23 d2_20 (q := 21) rfl rfl Q0 ?_
  have f24 := (P1.ext E9)
  have f25 := (P0.ext E9)
  refine g_putF C X23 (host := "") (Or.inl (w18 hw)) Via.refl f24 f25 (Or.inr ⟨(w19 hw), rfl, rfl⟩) (w5 hw) (ty := (.object "java/lang/String")) (by decide) (own_narR Q0) (own_fitR Q0) d2_21 (q := 24) rfl G0 ?_
  intro T26 h28 X27 W29
  have FW29 := Fld.same W29 f24
  have Y30 := Wx.wr Y8 W29 (Safe.exa (Cx.alike C) f25 (by decide) (by decide))
  have O31 := O18.wr W29 G0
  refine g_aloadN C X27 d2_24 (q := 25) rfl rfl rfl ?_
  refine g_aloadN C X27 d2_25 (q := 26) rfl rfl rfl ?_
  have f32 := ((P2.ext E9).other W29 (Or.inr (slot_ne (Or.inr (w21 hw)) (Or.inr (w19 hw)) (by decide) (t := (.object "java/lang/String")) (t' := (.object "java/lang/String")) (by decide) (by decide))))
  have f33 := (f25.wr W29)
  refine g_putF C X27 (host := "") (Or.inl (w20 hw)) Via.refl f32 f33 (Or.inr ⟨(w21 hw), rfl, rfl⟩) (w5 hw) (ty := (.object "java/lang/String")) (by decide) rfl rfl d2_26 (q := 29) rfl G0 ?_
  intro T34 h36 X35 W37
  have FW37 := Fld.same W37 f32
  have Y38 := Wx.wr Y30 W37 (Safe.exa (Cx.alike C) f33 (by decide) (by decide))
  have O39 := O31.wr W37 G0
  refine g_aloadN C X35 d2_29 (q := 30) rfl rfl rfl ?_
  refine g_lloadN C X35 d2_30 (q := 31) rfl rfl ?_
  have f40 := (((P3.ext E9).other W29 (Or.inr (slot_ne (Or.inr (w23 hw)) (Or.inr (w19 hw)) (by decide) (t := .long) (t' := (.object "java/lang/String")) (by decide) (by decide)))).other W37 (Or.inr (slot_ne (Or.inr (w23 hw)) (Or.inr (w21 hw)) (by decide) (t := .long) (t' := (.object "java/lang/String")) (by decide) (by decide))))
  have f41 := (f33.wr W37)
  refine g_putF C X35 (host := "") (Or.inl (w22 hw)) Via.refl f40 f41 (Or.inr ⟨(w23 hw), rfl, rfl⟩) (w5 hw) (ty := .long) (by decide) rfl rfl d2_31 (q := 34) rfl G0 ?_
  intro T42 h44 X43 W45
  have FW45 := Fld.same W45 f40
  have Y46 := Wx.wr Y38 W45 (Safe.exa (Cx.alike C) f41 (by decide) (by decide))
  have O47 := O39.wr W45 G0
  refine g_aloadN C X43 d2_34 (q := 35) rfl rfl rfl ?_
  refine g_aload C X43 d2_35 (q := 37) rfl rfl Q1 ?_
  have f48 := ((((P4.ext E9).other W29 (Or.inr (slot_ne (Or.inr (w25 hw)) (Or.inr (w19 hw)) (by decide) (t := (.object "java/lang/String")) (t' := (.object "java/lang/String")) (by decide) (by decide)))).other W37 (Or.inr (slot_ne (Or.inr (w25 hw)) (Or.inr (w21 hw)) (by decide) (t := (.object "java/lang/String")) (t' := (.object "java/lang/String")) (by decide) (by decide)))).other W45 (Or.inr (slot_ne (Or.inr (w25 hw)) (Or.inr (w23 hw)) (by decide) (t := (.object "java/lang/String")) (t' := .long) (by decide) (by decide))))
  have f49 := (f41.wr W45)
  refine g_putF C X43 (host := "") (Or.inl (w24 hw)) Via.refl f48 f49 (Or.inr ⟨(w25 hw), rfl, rfl⟩) (w5 hw) (ty := (.object "java/lang/String")) (by decide) (own_narR Q1) (own_fitR Q1) d2_37 (q := 40) rfl G0 ?_
  intro T50 h52 X51 W53
  have FW53 := Fld.same W53 f48
  have Y54 := Wx.wr Y46 W53 (Safe.exa (Cx.alike C) f49 (by decide) (by decide))
  have O55 := O47.wr W53 G0
  exact gW_retV C X51 Y54 (own_EL hw) d2_40 (by decide) (by decide) ⟨rfl, ((((((Keep.refl h0 [o0]).ext E9).wr W29 (Or.inl (List.mem_of_getElem? (i := 0) rfl))).wr W37 (Or.inl (List.mem_of_getElem? (i := 0) rfl))).wr W45 (Or.inl (List.mem_of_getElem? (i := 0) rfl))).wr W53 (Or.inl (List.mem_of_getElem? (i := 0) rfl))), (f49.wr W53), (((FW29.other W37 (Or.inr (slot_ne (Or.inr (w19 hw)) (Or.inr (w21 hw)) (by decide) (t := (.object "java/lang/String")) (t' := (.object "java/lang/String")) (by decide) (by decide)))).other W45 (Or.inr (slot_ne (Or.inr (w19 hw)) (Or.inr (w23 hw)) (by decide) (t := (.object "java/lang/String")) (t' := .long) (by decide) (by decide)))).other W53 (Or.inr (slot_ne (Or.inr (w19 hw)) (Or.inr (w25 hw)) (by decide) (t := (.object "java/lang/String")) (t' := (.object "java/lang/String")) (by decide) (by decide)))), ((FW37.other W45 (Or.inr (slot_ne (Or.inr (w21 hw)) (Or.inr (w23 hw)) (by decide) (t := (.object "java/lang/String")) (t' := .long) (by decide) (by decide)))).other W53 (Or.inr (slot_ne (Or.inr (w21 hw)) (Or.inr (w25 hw)) (by decide) (t := (.object "java/lang/String")) (t' := (.object "java/lang/String")) (by decide) (by decide)))), (FW45.other W53 (Or.inr (slot_ne (Or.inr (w23 hw)) (Or.inr (w25 hw)) (by decide) (t := .long) (t' := (.object "java/lang/String")) (by decide) (by decide)))), FW53⟩
set_option maxRecDepth 65536 in
set_option maxHeartbeats 40000000 in
theorem rm_st_3 {l : Launch} {Z : State} {a0 : Array Value} (hw : ∀ d ∈ tables_1, d.before a0 Z = true) {cz : Int32} {fm : Value} {o0 : Addr} {av1 : Value} {o2 : Addr} {j3 : Int64} {h0 : Heap} {n0 : Nat} (O : Old Z n0 h0) (W : Wd Z cz fm)  (P0 : Exa Z h0 o0 "com/example/jetway/jetway/Fetcher$Validators") (P1 : Fld Z h0 o0 "com/example/jetway/jetway/Fetcher$Validators" "lastModified" "Ljava/lang/String;" av1) (P2 : Fld Z h0 o0 "com/example/jetway/jetway/Fetcher$Validators" "entityTag" "Ljava/lang/String;" (.ref o2)) (P3 : Fld Z h0 o0 "com/example/jetway/jetway/Fetcher$Validators" "length" "J" (.long j3)) (P4 : Fld Z h0 o0 "com/example/jetway/jetway/Fetcher$Validators" "versionId" "Ljava/lang/String;" .null) (G0 : n0 ≤ o0) (Q0 : av1.isRef = true) :
    Met1 l Z (⟨"com/example/jetway/jetway/Fetcher$Validators", "statesVersion", "()Z"⟩ : MethodName) prog_37_method_2_code 1 (some .boolean) ({ frames := 0, cells := 0, slots := 0, locals := 0 } : Room) #[(.ref o0)] h0 n0 (fun v h => v = (.int (1 : Int32)) ∧ h0 = h) := by
  refine met_of (L := #[.val (.ref o0)]) (plainFor_of_name pn_96) (fun m => by first | (simp [entryFrame, mkF, argsToLocals, Value.category]; done) | rfl) ?_
  intro p e s m below meth c T C X
  change Cx p s m meth c Z "com/example/jetway/jetway/Fetcher$Validators" prog_37_method_2_code 1 (some .boolean) "statesVersion" at C
  refine g_aloadN C X d5_0 (q := 1) rfl rfl rfl ?_
  refine g_getF C X (host := "") (Or.inl (w24 hw)) Via.refl P4 d5_1 (q := 4) rfl ?_
  intro T1 X2
  refine g_nonN C X2 d5_4 (q := 7) rfl ?_
  refine g_aloadN C X2 d5_7 (q := 8) rfl rfl rfl ?_
  refine g_getF C X2 (host := "") (Or.inl (w20 hw)) Via.refl P2 d5_8 (q := 11) rfl ?_
  intro T3 X4
  refine g_nonY C X4 d5_11 (by decide) (q := 21) (by decide) ?_
  refine g_iconst C X4 d5_21 (q := 22) rfl (z := (1 : Int32)) rfl ?_
  refine g_goto C X4 d5_22 (by decide) (q := 26) (by decide) ?_
  exact g_retN C X4 (Or.inl rfl) (z' := (1 : Int32)) (by decide) d5_26 (by decide) (by decide) ⟨_, rfl, rfl, rfl⟩
set_option maxRecDepth 65536 in
set_option maxHeartbeats 40000000 in
theorem rm_st_4 {l : Launch} {Z : State} {a0 : Array Value} (hw : ∀ d ∈ tables_1, d.before a0 Z = true) {cz : Int32} {fm : Value} {o0 : Addr} {av1 : Value} {o2 : Addr} {j3 : Int64} {o4 : Addr} {h0 : Heap} {n0 : Nat} (O : Old Z n0 h0) (W : Wd Z cz fm)  (P0 : Exa Z h0 o0 "com/example/jetway/jetway/Fetcher$Validators") (P1 : Fld Z h0 o0 "com/example/jetway/jetway/Fetcher$Validators" "lastModified" "Ljava/lang/String;" av1) (P2 : Fld Z h0 o0 "com/example/jetway/jetway/Fetcher$Validators" "entityTag" "Ljava/lang/String;" (.ref o2)) (P3 : Fld Z h0 o0 "com/example/jetway/jetway/Fetcher$Validators" "length" "J" (.long j3)) (P4 : Fld Z h0 o0 "com/example/jetway/jetway/Fetcher$Validators" "versionId" "Ljava/lang/String;" (.ref o4)) (G0 : n0 ≤ o0) (Q0 : av1.isRef = true) :
    Met1 l Z (⟨"com/example/jetway/jetway/Fetcher$Validators", "statesVersion", "()Z"⟩ : MethodName) prog_37_method_2_code 1 (some .boolean) ({ frames := 0, cells := 0, slots := 0, locals := 0 } : Room) #[(.ref o0)] h0 n0 (fun v h => v = (.int (1 : Int32)) ∧ h0 = h) := by
  refine met_of (L := #[.val (.ref o0)]) (plainFor_of_name pn_96) (fun m => by first | (simp [entryFrame, mkF, argsToLocals, Value.category]; done) | rfl) ?_
  intro p e s m below meth c T C X
  change Cx p s m meth c Z "com/example/jetway/jetway/Fetcher$Validators" prog_37_method_2_code 1 (some .boolean) "statesVersion" at C
  refine g_aloadN C X d5_0 (q := 1) rfl rfl rfl ?_
  refine g_getF C X (host := "") (Or.inl (w24 hw)) Via.refl P4 d5_1 (q := 4) rfl ?_
  intro T1 X2
  refine g_nonY C X2 d5_4 (by decide) (q := 21) (by decide) ?_
  refine g_iconst C X2 d5_21 (q := 22) rfl (z := (1 : Int32)) rfl ?_
  refine g_goto C X2 d5_22 (by decide) (q := 26) (by decide) ?_
  exact g_retN C X2 (Or.inl rfl) (z' := (1 : Int32)) (by decide) d5_26 (by decide) (by decide) ⟨_, rfl, rfl, rfl⟩
set_option maxRecDepth 65536 in
set_option maxHeartbeats 40000000 in
theorem rm_cod_0 {l : Launch} {Z : State} {a0 : Array Value} (hw : ∀ d ∈ tables_1, d.before a0 Z = true) {cz : Int32} {fm : Value} {o0 : Addr} {h0 : Heap} {n0 : Nat} (O : Old Z n0 h0) (W : Wd Z cz fm)  (P0 : Exa Z h0 o0 "java/lang/String") (P1 : Str Z h0 o0 [(87 : Int32), (47 : Int32)]) (G0 : n0 ≤ o0) :
    Met1 l Z (⟨"java/lang/String", "coder", "()B"⟩ : MethodName) jdk_42_method_152_code 1 (some .byte) ({ frames := 0, cells := 0, slots := 0, locals := 0 } : Room) #[(.ref o0)] h0 n0 (fun v h => v = (.int (0 : Int32)) ∧ h0 = h) := by
  refine met_of (L := #[.val (.ref o0)]) (plainFor_of_name pn_32) (fun m => by first | (simp [entryFrame, mkF, argsToLocals, Value.category]; done) | rfl) ?_
  intro p e s m below meth c T C X
  change Cx p s m meth c Z "java/lang/String" jdk_42_method_152_code 1 (some .byte) "coder" at C
  refine g_getS C X (host := "") (Or.inl (w43 hw)) Via.refl (W.1.ext O.2) d14_0 (q := 3) rfl ?_
  intro T1 X2
  refine g_ifN C X2 d14_3 (q := 6) rfl (feq W.2.1).1 ?_
  refine g_aloadN C X2 d14_6 (q := 7) rfl rfl rfl ?_
  have F3 := P1
  obtain ⟨b4, kA5, f6, f7, f8, f9, -, -⟩ := F3
  have V10 : Arv Z h0 b4 kA5 .byte (2 : Int32) [(.int (87 : Int32)), (.int (47 : Int32))] (.int 0) := f9
  refine g_getF C X2 (host := "") (Or.inl (w55 hw)) Via.refl f8 d14_7 (q := 10) rfl ?_
  intro T11 X12
  refine g_goto C X12 d14_10 (by decide) (q := 14) (by decide) ?_
  exact g_retN C X12 (Or.inr (Or.inl rfl)) (z' := (0 : Int32)) (by decide) d14_14 (by decide) (by decide) ⟨_, rfl, rfl, rfl⟩
set_option maxRecDepth 65536 in
set_option maxHeartbeats 40000000 in
theorem rm_cod_1 {l : Launch} {Z : State} {a0 : Array Value} (hw : ∀ d ∈ tables_1, d.before a0 Z = true) {cz : Int32} {fm : Value} {o0 : Addr} {h0 : Heap} {n0 : Nat} (O : Old Z n0 h0) (W : Wd Z cz fm)  (P0 : Exa Z h0 o0 "java/lang/String") (P1 : Str Z h0 o0 [(87 : Int32), (47 : Int32)]) :
    Met1 l Z (⟨"java/lang/String", "coder", "()B"⟩ : MethodName) jdk_42_method_152_code 1 (some .byte) ({ frames := 0, cells := 0, slots := 0, locals := 0 } : Room) #[(.ref o0)] h0 n0 (fun v h => v = (.int (0 : Int32)) ∧ h0 = h) := by
  refine met_of (L := #[.val (.ref o0)]) (plainFor_of_name pn_32) (fun m => by first | (simp [entryFrame, mkF, argsToLocals, Value.category]; done) | rfl) ?_
  intro p e s m below meth c T C X
  change Cx p s m meth c Z "java/lang/String" jdk_42_method_152_code 1 (some .byte) "coder" at C
  refine g_getS C X (host := "") (Or.inl (w43 hw)) Via.refl (W.1.ext O.2) d14_0 (q := 3) rfl ?_
  intro T1 X2
  refine g_ifN C X2 d14_3 (q := 6) rfl (feq W.2.1).1 ?_
  refine g_aloadN C X2 d14_6 (q := 7) rfl rfl rfl ?_
  have F3 := P1
  obtain ⟨b4, kA5, f6, f7, f8, f9, -, -⟩ := F3
  have V10 : Arv Z h0 b4 kA5 .byte (2 : Int32) [(.int (87 : Int32)), (.int (47 : Int32))] (.int 0) := f9
  refine g_getF C X2 (host := "") (Or.inl (w55 hw)) Via.refl f8 d14_7 (q := 10) rfl ?_
  intro T11 X12
  refine g_goto C X12 d14_10 (by decide) (q := 14) (by decide) ?_
  exact g_retN C X12 (Or.inr (Or.inl rfl)) (z' := (0 : Int32)) (by decide) d14_14 (by decide) (by decide) ⟨_, rfl, rfl, rfl⟩
set_option maxRecDepth 65536 in
set_option maxHeartbeats 40000000 in
theorem rm_mis_0 {l : Launch} {Z : State} {a0 : Array Value} (hw : ∀ d ∈ tables_1, d.before a0 Z = true) {cz : Int32} {fm : Value} {o0 : Addr} {o1 : Addr} {kc2 : ClassId} {kc3 : ClassId} {h0 : Heap} {n0 : Nat} (O : Old Z n0 h0) (W : Wd Z cz fm)  (P0 : Arv Z h0 o0 kc2 .byte (2 : Int32) [(.int (87 : Int32)), (.int (47 : Int32))] (.int (0 : Int32))) (P1 : Arv Z h0 o1 kc3 .byte (2 : Int32) [(.int (87 : Int32)), (.int (47 : Int32))] (.int (0 : Int32))) :
    Met1 l Z (⟨"jdk/internal/util/ArraysSupport", "mismatch", "([BI[BII)I"⟩ : MethodName) jdk_48_method_14_code 8 (some .int) ({ frames := 0, cells := 0, slots := 0, locals := 0 } : Room) #[(.ref o0), (.int (0 : Int32)), (.ref o1), (.int (0 : Int32)), (.int (2 : Int32))] h0 n0 (fun v h => v = (.int (-1 : Int32)) ∧ h0 = h) := by
  refine met_of (L := #[.val (.ref o0), .val (.int (0 : Int32)), .val (.ref o1), .val (.int (0 : Int32)), .val (.int (2 : Int32)), .unset, .unset, .unset]) (plainFor_of_name pn_191) (fun m => by first | (simp [entryFrame, mkF, argsToLocals, Value.category]; done) | rfl) ?_
  intro p e s m below meth c T C X
  change Cx p s m meth c Z "jdk/internal/util/ArraysSupport" jdk_48_method_14_code 8 (some .int) "mismatch" at C
  refine g_iconst C X d15_0 (q := 1) rfl (z := (0 : Int32)) rfl ?_
  refine g_istore C X d15_1 (q := 3) rfl (L' := #[.val (.ref o0), .val (.int (0 : Int32)), .val (.ref o1), .val (.int (0 : Int32)), .val (.int (2 : Int32)), .val (.int (0 : Int32)), .unset, .unset]) rfl ?_
  refine g_iload C X d15_3 (q := 5) rfl rfl ?_
  refine g_bipush C X d15_5 (q := 7) rfl (z := (7 : Int32)) rfl ?_
  refine g_icY C X d15_7 (by decide) (q := 70) (by decide) (by decide) ?_
  refine g_iload C X d15_70 (q := 72) rfl rfl ?_
  refine g_iload C X d15_72 (q := 74) rfl rfl ?_
  refine g_icN C X d15_74 (q := 77) rfl (by decide) ?_
  refine g_aloadN C X d15_77 (q := 78) rfl rfl rfl ?_
  refine g_iloadN C X d15_78 (q := 79) rfl rfl ?_
  refine g_iload C X d15_79 (q := 81) rfl rfl ?_
  refine g_iadd C X d15_81 (q := 82) rfl (z := (0 : Int32)) (by decide) ?_
  refine g_baload C X P0 (by decide) (w := (.int (87 : Int32))) rfl d15_82 (q := 83) rfl ?_
  refine g_aloadN C X d15_83 (q := 84) rfl rfl rfl ?_
  refine g_iloadN C X d15_84 (q := 85) rfl rfl ?_
  refine g_iload C X d15_85 (q := 87) rfl rfl ?_
  refine g_iadd C X d15_87 (q := 88) rfl (z := (0 : Int32)) (by decide) ?_
  refine g_baload C X P1 (by decide) (w := (.int (87 : Int32))) rfl d15_88 (q := 89) rfl ?_
  refine g_icY C X d15_89 (by decide) (q := 95) (by decide) (by decide) ?_
  refine g_iinc C X d15_95 (q := 98) rfl rfl (z := (1 : Int32)) (by decide) (L' := #[.val (.ref o0), .val (.int (0 : Int32)), .val (.ref o1), .val (.int (0 : Int32)), .val (.int (2 : Int32)), .val (.int (1 : Int32)), .unset, .unset]) rfl ?_
  refine g_goto C X d15_98 (by decide) (q := 70) (by decide) ?_
  refine g_iload C X d15_70 (q := 72) rfl rfl ?_
  refine g_iload C X d15_72 (q := 74) rfl rfl ?_
  refine g_icN C X d15_74 (q := 77) rfl (by decide) ?_
  refine g_aloadN C X d15_77 (q := 78) rfl rfl rfl ?_
  refine g_iloadN C X d15_78 (q := 79) rfl rfl ?_
  refine g_iload C X d15_79 (q := 81) rfl rfl ?_
  refine g_iadd C X d15_81 (q := 82) rfl (z := (1 : Int32)) (by decide) ?_
  refine g_baload C X P0 (by decide) (w := (.int (47 : Int32))) rfl d15_82 (q := 83) rfl ?_
  refine g_aloadN C X d15_83 (q := 84) rfl rfl rfl ?_
  refine g_iloadN C X d15_84 (q := 85) rfl rfl ?_
  refine g_iload C X d15_85 (q := 87) rfl rfl ?_
  refine g_iadd C X d15_87 (q := 88) rfl (z := (1 : Int32)) (by decide) ?_
  refine g_baload C X P1 (by decide) (w := (.int (47 : Int32))) rfl d15_88 (q := 89) rfl ?_
  refine g_icY C X d15_89 (by decide) (q := 95) (by decide) (by decide) ?_
  refine g_iinc C X d15_95 (q := 98) rfl rfl (z := (2 : Int32)) (by decide) (L' := #[.val (.ref o0), .val (.int (0 : Int32)), .val (.ref o1), .val (.int (0 : Int32)), .val (.int (2 : Int32)), .val (.int (2 : Int32)), .unset, .unset]) rfl ?_
  refine g_goto C X d15_98 (by decide) (q := 70) (by decide) ?_
  refine g_iload C X d15_70 (q := 72) rfl rfl ?_
  refine g_iload C X d15_72 (q := 74) rfl rfl ?_
  refine g_icY C X d15_74 (by decide) (q := 101) (by decide) (by decide) ?_
  refine g_iconst C X d15_101 (q := 102) rfl (z := (-1 : Int32)) rfl ?_
  exact g_retI C X d15_102 (by decide) (by decide) ⟨_, rfl, rfl, rfl⟩
set_option maxRecDepth 65536 in
set_option maxHeartbeats 40000000 in
theorem rm_sw2_1 {l : Launch} {Z : State} {a0 : Array Value} (hw : ∀ d ∈ tables_1, d.before a0 Z = true) {cz : Int32} {fm : Value} {o0 : Addr} {o1 : Addr} {h0 : Heap} {n0 : Nat} (O : Old Z n0 h0) (W : Wd Z cz fm)  (P0 : Exa Z h0 o0 "java/lang/String") (P1 : Str Z h0 o0 [(87 : Int32), (47 : Int32)]) (P2 : Exa Z h0 o1 "java/lang/String") (P3 : Str Z h0 o1 [(87 : Int32), (47 : Int32)]) (G0 : n0 ≤ o0) :
    Met1 l Z (⟨"java/lang/String", "startsWith", "(Ljava/lang/String;I)Z"⟩ : MethodName) jdk_42_method_75_code 8 (some .boolean) ({ frames := 2, cells := 0, slots := 0, locals := 27 } : Room) #[(.ref o0), (.ref o1), (.int (0 : Int32))] h0 n0 (fun v h => v = (.int (1 : Int32)) ∧ h0 = h) := by
  refine met_of (L := #[.val (.ref o0), .val (.ref o1), .val (.int (0 : Int32)), .unset, .unset, .unset, .unset, .unset]) (plainFor_of_name pn_32) (fun m => by first | (simp [entryFrame, mkF, argsToLocals, Value.category]; done) | rfl) ?_
  intro p e s m below meth c T C X
  change Cx p s m meth c Z "java/lang/String" jdk_42_method_75_code 8 (some .boolean) "startsWith" at C
  refine g_iloadN C X d12_0 (q := 1) rfl rfl ?_
  refine g_ifN C X d12_1 (q := 4) rfl (by decide) ?_
  refine g_iloadN C X d12_4 (q := 5) rfl rfl ?_
  refine g_aloadN C X d12_5 (q := 6) rfl rfl rfl ?_
  refine g_strLen C X (own_wordsLen hw) (w32 hw) (w72 hw) (w73 hw) (w75 hw) (w74 hw) P1 (W.1.ext O.2) W.2.1 (W := 1) (by decide) (by decide) (by decide) (by decide) rfl rfl d12_6 (q := 9) rfl ?_
  intro T1 X2
  change Goes p e below _ (T1.setTop (mkF m 9 #[.val (.ref o0), .val (.ref o1), .val (.int (0 : Int32)), .unset, .unset, .unset, .unset, .unset] ((.int (2 : Int32)) :: [(.int (0 : Int32))])))
  refine g_aloadN C X2 d12_9 (q := 10) rfl rfl rfl ?_
  refine g_strLen C X2 (own_wordsLen hw) (w32 hw) (w72 hw) (w73 hw) (w75 hw) (w74 hw) P3 (W.1.ext O.2) W.2.1 (W := 2) (by decide) (by decide) (by decide) (by decide) rfl rfl d12_10 (q := 13) rfl ?_
  intro T3 X4
  change Goes p e below _ (T3.setTop (mkF m 13 #[.val (.ref o0), .val (.ref o1), .val (.int (0 : Int32)), .unset, .unset, .unset, .unset, .unset] ((.int (2 : Int32)) :: [(.int (2 : Int32)), (.int (0 : Int32))])))
  refine g_isub C X4 d12_13 (q := 14) rfl (z := (0 : Int32)) (by decide) ?_
  refine g_icY C X4 d12_14 (by decide) (q := 19) (by decide) (by decide) ?_
  refine g_aloadN C X4 d12_19 (q := 20) rfl rfl rfl ?_
  have F5 := P1
  obtain ⟨b6, kA7, f8, f9, f10, f11, -, -⟩ := F5
  have V12 : Arv Z h0 b6 kA7 .byte (2 : Int32) [(.int (87 : Int32)), (.int (47 : Int32))] (.int 0) := f11
  refine g_getF C X4 (host := "") (Or.inl (w57 hw)) Via.refl f9 d12_20 (q := 23) rfl ?_
  intro T13 X14
  refine g_astoreN C X14 d12_23 (q := 24) rfl rfl (L' := #[.val (.ref o0), .val (.ref o1), .val (.int (0 : Int32)), .val (.ref b6), .unset, .unset, .unset, .unset]) rfl ?_
  refine g_aloadN C X14 d12_24 (q := 25) rfl rfl rfl ?_
  have F15 := P3
  obtain ⟨b16, kA17, f18, f19, f20, f21, -, -⟩ := F15
  have V22 : Arv Z h0 b16 kA17 .byte (2 : Int32) [(.int (87 : Int32)), (.int (47 : Int32))] (.int 0) := f21
  refine g_getF C X14 (host := "") (Or.inl (w57 hw)) Via.refl f19 d12_25 (q := 28) rfl ?_
  intro T23 X24
  refine g_astore C X24 d12_28 (q := 30) rfl rfl (L' := #[.val (.ref o0), .val (.ref o1), .val (.int (0 : Int32)), .val (.ref b6), .val (.ref b16), .unset, .unset, .unset]) rfl ?_
  refine g_iconst C X24 d12_30 (q := 31) rfl (z := (0 : Int32)) rfl ?_
  refine g_istore C X24 d12_31 (q := 33) rfl (L' := #[.val (.ref o0), .val (.ref o1), .val (.int (0 : Int32)), .val (.ref b6), .val (.ref b16), .val (.int (0 : Int32)), .unset, .unset]) rfl ?_
  refine g_aload C X24 d12_33 (q := 35) rfl rfl rfl ?_
  refine g_alen C X24 V22 d12_35 (q := 36) rfl ?_
  refine g_istore C X24 d12_36 (q := 38) rfl (L' := #[.val (.ref o0), .val (.ref o1), .val (.int (0 : Int32)), .val (.ref b6), .val (.ref b16), .val (.int (0 : Int32)), .val (.int (2 : Int32)), .unset]) rfl ?_
  refine g_aloadN C X24 d12_38 (q := 39) rfl rfl rfl ?_
  refine g_callV1 C X24 (y := (⟨"java/lang/String", "coder", "()B"⟩ : MethodName)) (z := (⟨"java/lang/String", "coder", "()B"⟩ : MethodName)) (a := o0) (by decide) (w77 hw) (w78 hw) (w80 hw) (w79 hw) (nf_sel (w80 hw)) P0 (w81 hw) (w33 hw) (rm_cod_0 hw (o0 := o0) O W P0 P1 G0) (W := 0) (by decide) (by decide) (k' := 0) rfl (n' := 0) rfl (by decide) (by decide) rfl pd_153 (argsL := []) rfl (rest := []) rfl rfl rfl d12_39 (q := 42) rfl ?_
  rintro _ T25 _ X26 ⟨rfl, rfl⟩
  refine g_istore C X26 d12_42 (q := 44) rfl (L' := #[.val (.ref o0), .val (.ref o1), .val (.int (0 : Int32)), .val (.ref b6), .val (.ref b16), .val (.int (0 : Int32)), .val (.int (2 : Int32)), .val (.int (0 : Int32))]) rfl ?_
  refine g_iload C X26 d12_44 (q := 46) rfl rfl ?_
  refine g_aloadN C X26 d12_46 (q := 47) rfl rfl rfl ?_
  refine g_callV1 C X26 (y := (⟨"java/lang/String", "coder", "()B"⟩ : MethodName)) (z := (⟨"java/lang/String", "coder", "()B"⟩ : MethodName)) (a := o1) (by decide) (w77 hw) (w78 hw) (w80 hw) (w79 hw) (nf_sel (w80 hw)) P2 (w81 hw) (w33 hw) (rm_cod_1 hw (o0 := o1) O W P2 P3) (W := 1) (by decide) (by decide) (k' := 0) rfl (n' := 0) rfl (by decide) (by decide) rfl pd_153 (argsL := []) rfl (rest := [(.int (0 : Int32))]) rfl rfl rfl d12_47 (q := 50) rfl ?_
  rintro _ T27 _ X28 ⟨rfl, rfl⟩
  refine g_icN C X28 d12_50 (q := 53) rfl (by decide) ?_
  refine g_iload C X28 d12_53 (q := 55) rfl rfl ?_
  refine g_iconst C X28 d12_55 (q := 56) rfl (z := (1 : Int32)) rfl ?_
  refine g_icY C X28 d12_56 (by decide) (q := 63) (by decide) (by decide) ?_
  refine g_aloadN C X28 d12_63 (q := 64) rfl rfl rfl ?_
  refine g_iloadN C X28 d12_64 (q := 65) rfl rfl ?_
  refine g_aload C X28 d12_65 (q := 67) rfl rfl rfl ?_
  refine g_iconst C X28 d12_67 (q := 68) rfl (z := (0 : Int32)) rfl ?_
  refine g_iload C X28 d12_68 (q := 70) rfl rfl ?_
  refine g_callS1 C X28 (y := (⟨"jdk/internal/util/ArraysSupport", "mismatch", "([BI[BII)I"⟩ : MethodName)) (by decide) (w82 hw) (w83 hw) (w85 hw) (w84 hw) (rm_mis_0 hw (o0 := b6) (o1 := b16) (kc2 := kA7) (kc3 := kA17) O W V12 V22) (W := 0) (by decide) (by decide) (k' := 0) rfl (n' := 0) rfl (by decide) (by decide) rfl pd_192 (argsL := [(.ref b6), (.int (0 : Int32)), (.ref b16), (.int (0 : Int32)), (.int (2 : Int32))]) rfl (rest := []) rfl rfl rfl d12_70 (q := 73) rfl ?_
  rintro _ T29 _ X30 ⟨rfl, rfl⟩
  refine g_ifN C X30 d12_73 (q := 76) rfl (by decide) ?_
  refine g_iconst C X30 d12_76 (q := 77) rfl (z := (1 : Int32)) rfl ?_
  refine g_goto C X30 d12_77 (by decide) (q := 81) (by decide) ?_
  exact g_retN C X30 (Or.inl rfl) (z' := (1 : Int32)) (by decide) d12_81 (by decide) (by decide) ⟨_, rfl, rfl, rfl⟩
set_option maxRecDepth 65536 in
set_option maxHeartbeats 40000000 in
theorem rm_sw1_1 {l : Launch} {Z : State} {a0 : Array Value} (hw : ∀ d ∈ tables_1, d.before a0 Z = true) {cz : Int32} {fm : Value} {o0 : Addr} {o1 : Addr} {h0 : Heap} {n0 : Nat} (O : Old Z n0 h0) (W : Wd Z cz fm)  (P0 : Exa Z h0 o0 "java/lang/String") (P1 : Str Z h0 o0 [(87 : Int32), (47 : Int32)]) (P2 : Exa Z h0 o1 "java/lang/String") (P3 : Str Z h0 o1 [(87 : Int32), (47 : Int32)]) (G0 : n0 ≤ o0) :
    Met1 l Z (⟨"java/lang/String", "startsWith", "(Ljava/lang/String;)Z"⟩ : MethodName) jdk_42_method_76_code 2 (some .boolean) ({ frames := 3, cells := 0, slots := 0, locals := 46 } : Room) #[(.ref o0), (.ref o1)] h0 n0 (fun v h => v = (.int (1 : Int32)) ∧ h0 = h) := by
  refine met_of (L := #[.val (.ref o0), .val (.ref o1)]) (plainFor_of_name pn_32) (fun m => by first | (simp [entryFrame, mkF, argsToLocals, Value.category]; done) | rfl) ?_
  intro p e s m below meth c T C X
  change Cx p s m meth c Z "java/lang/String" jdk_42_method_76_code 2 (some .boolean) "startsWith" at C
  refine g_aloadN C X d11_0 (q := 1) rfl rfl rfl ?_
  refine g_aloadN C X d11_1 (q := 2) rfl rfl rfl ?_
  refine g_iconst C X d11_2 (q := 3) rfl (z := (0 : Int32)) rfl ?_
  refine g_callV1 C X (y := (⟨"java/lang/String", "startsWith", "(Ljava/lang/String;I)Z"⟩ : MethodName)) (z := (⟨"java/lang/String", "startsWith", "(Ljava/lang/String;I)Z"⟩ : MethodName)) (a := o0) (by decide) (w67 hw) (w68 hw) (w70 hw) (w69 hw) (nf_sel (w70 hw)) P0 (w71 hw) (w33 hw) (rm_sw2_1 hw (o0 := o0) (o1 := o1) O W P0 P1 P2 P3 G0) (W := 0) (by decide) (by decide) (k' := 0) rfl (n' := 0) rfl (by decide) (by decide) rfl pd_130 (argsL := [(.ref o1), (.int (0 : Int32))]) rfl (rest := []) rfl rfl rfl d11_3 (q := 6) rfl ?_
  rintro _ T1 _ X2 ⟨rfl, rfl⟩
  exact g_retN C X2 (Or.inl rfl) (z' := (1 : Int32)) (by decide) d11_6 (by decide) (by decide) ⟨_, rfl, rfl, rfl⟩
set_option maxRecDepth 65536 in
set_option maxHeartbeats 40000000 in
theorem rm_init_2 {l : Launch} {Z : State} {a0 : Array Value} (hw : ∀ d ∈ tables_1, d.before a0 Z = true) {cz : Int32} {fm : Value} {o0 : Addr} {o1 : Addr} {av2 : Value} {j3 : Int64} {av4 : Value} {h0 : Heap} {n0 : Nat} (O : Old Z n0 h0) (W : Wd Z cz fm)  (P0 : Exa Z h0 o0 "com/example/jetway/jetway/Fetcher$Validators") (P1 : Fld Z h0 o0 "com/example/jetway/jetway/Fetcher$Validators" "lastModified" "Ljava/lang/String;" .null) (P2 : Fld Z h0 o0 "com/example/jetway/jetway/Fetcher$Validators" "entityTag" "Ljava/lang/String;" .null) (P3 : Fld Z h0 o0 "com/example/jetway/jetway/Fetcher$Validators" "length" "J" (.long (0 : Int64))) (P4 : Fld Z h0 o0 "com/example/jetway/jetway/Fetcher$Validators" "versionId" "Ljava/lang/String;" .null) (P5 : Exa Z h0 o1 "java/lang/String") (P6 : Str Z h0 o1 [(87 : Int32), (47 : Int32)]) (G0 : n0 ≤ o0) (G1 : n0 ≤ o1) (N0_1 : o0 ≠ o1) (Q0 : av2.isRef = true) (Q1 : av4.isRef = true) :
    MetW0 l Z consts_1 (⟨"com/example/jetway/jetway/Fetcher$Validators", "<init>", "(Ljava/lang/String;Ljava/lang/String;JLjava/lang/String;)V"⟩ : MethodName) prog_37_method_1_code 6 none ({ frames := 4, cells := 2, slots := 12, locals := 59 } : Room) #[(.ref o0), av2, (.ref o1), (.long j3), av4] h0 n0 (fun h => Keep h0 h [o0] ∧ Exa Z h o0 "com/example/jetway/jetway/Fetcher$Validators" ∧ Fld Z h o0 "com/example/jetway/jetway/Fetcher$Validators" "lastModified" "Ljava/lang/String;" av2 ∧ Fld Z h o0 "com/example/jetway/jetway/Fetcher$Validators" "entityTag" "Ljava/lang/String;" .null ∧ Fld Z h o0 "com/example/jetway/jetway/Fetcher$Validators" "length" "J" (.long j3) ∧ Fld Z h o0 "com/example/jetway/jetway/Fetcher$Validators" "versionId" "Ljava/lang/String;" av4) := by
  refine metW_of (L := #[.val (.ref o0), .val av2, .val (.ref o1), .val (.long j3), .second, .val av4]) (plainFor_of_name pn_96) (fun m => by (cases av2 <;> first | exact absurd Q0 Bool.false_ne_true | skip) <;> (cases av4 <;> first | exact absurd Q1 Bool.false_ne_true | skip) <;> first | (simp [entryFrame, mkF, argsToLocals, Value.category]; done) | rfl) ?_
  intro p e s m below meth c T vm C X Y
  change Cx p (s.setVm vm) m meth c Z "com/example/jetway/jetway/Fetcher$Validators" prog_37_method_1_code 6 none "<init>" at C
  refine g_aloadN C X d2_0 (q := 1) rfl rfl rfl ?_
  refine g_callI0 C X (y := (⟨"java/lang/Record", "<init>", "()V"⟩ : MethodName)) (a := o0) (by decide) rfl (w10 hw) (w11 hw) (w14 hw) (w13 hw) (rm_rec_0 hw (o0 := o0) O W P0 P1 P2 P3 P4 G0) (W := 0) (by decide) (by decide) (k' := 0) rfl (n' := 0) rfl (by decide) (by decide) rfl pd_80 (argsL := []) rfl (rest := []) rfl rfl rfl d2_1 (q := 4) rfl ?_
  rintro T1 _ X2 rfl
  refine g_aloadN C X2 d2_4 (q := 5) rfl rfl rfl ?_
  refine g_nulN C X2 d2_5 (q := 8) rfl ?_
  refine g_aloadN C X2 d2_8 (q := 9) rfl rfl rfl ?_
  refine gW_ldcC C X2 Y (own_EL hw) (vs := [(.int (87 : Int32)), (.int (47 : Int32))]) (z := 2) (w59 hw) (own_SA hw) (List.mem_of_getElem? (i := 0) rfl) ⟨by decide, by decide +kernel⟩ (by decide) rfl d2_9 (q := 11) rfl (nn := 8) (by decide) (by decide) (k' := 2) rfl (n' := 12) rfl (by decide) (by decide) ?_
  intro b3 b11 kA12 T4 h5 vm6 C X7 Y8 E9 R10 f13 f14 f15 f16 sf17
  have O18 := O.ext E9
  have F19 : Str Z h5 b3 [(87 : Int32), (47 : Int32)] := ⟨b11, kA12, f13, f15, f14, f16, by decide, by decide⟩
  have f20 := (P5.ext E9)
  have f21 := (P6.ext E9)
  refine g_callV1 C X7 (y := (⟨"java/lang/String", "startsWith", "(Ljava/lang/String;)Z"⟩ : MethodName)) (z := (⟨"java/lang/String", "startsWith", "(Ljava/lang/String;)Z"⟩ : MethodName)) (a := o1) (by decide) (w62 hw) (w63 hw) (w65 hw) (w64 hw) (nf_sel (w65 hw)) f20 (w66 hw) (w33 hw) (rm_sw1_1 hw (o0 := o1) (o1 := b3) O18 W f20 f21 f13 F19 G1) (W := 0) (by decide) (by decide) (k' := 2) rfl (n' := 12) rfl (by decide) (by decide) rfl pd_132 (argsL := [(.ref b3)]) rfl (rest := []) rfl rfl rfl d2_11 (q := 14) rfl ?_
  rintro _ T22 _ X23 ⟨rfl, rfl⟩
  refine g_ifN C X23 d2_14 (q := 17) rfl (by decide) ?_
  refine g_aconstNull C X23 d2_17 (q := 18) rfl ?_
  refine g_astoreN C X23 d2_18 (q := 19) rfl rfl (L' := #[.val (.ref o0), .val av2, .val .null, .val (.long j3), .second, .val av4]) rfl ?_
  refine g_aloadN C X23 d2_19 (q := 20) rfl rfl rfl ?_
  refine g_aloadN C X23 d2_20 (q := 21) rfl rfl Q0 ?_
  have f24 := (P1.ext E9)
  have f25 := (P0.ext E9)
  refine g_putF C X23 (host := "") (Or.inl (w18 hw)) Via.refl f24 f25 (Or.inr ⟨(w19 hw), rfl, rfl⟩) (w5 hw) (ty := (.object "java/lang/String")) (by decide) (own_narR Q0) (own_fitR Q0) d2_21 (q := 24) rfl G0 ?_
  intro T26 h28 X27 W29
  have FW29 := Fld.same W29 f24
  have Y30 := Wx.wr Y8 W29 (Safe.exa (Cx.alike C) f25 (by decide) (by decide))
  have O31 := O18.wr W29 G0
  refine g_aloadN C X27 d2_24 (q := 25) rfl rfl rfl ?_
  refine g_aloadN C X27 d2_25 (q := 26) rfl rfl rfl ?_
  have f32 := ((P2.ext E9).other W29 (Or.inr (slot_ne (Or.inr (w21 hw)) (Or.inr (w19 hw)) (by decide) (t := (.object "java/lang/String")) (t' := (.object "java/lang/String")) (by decide) (by decide))))
  have f33 := (f25.wr W29)
  refine g_putF C X27 (host := "") (Or.inl (w20 hw)) Via.refl f32 f33 (Or.inr ⟨(w21 hw), rfl, rfl⟩) (w5 hw) (ty := (.object "java/lang/String")) (by decide) rfl rfl d2_26 (q := 29) rfl G0 ?_
  intro T34 h36 X35 W37
  have FW37 := Fld.same W37 f32
  have Y38 := Wx.wr Y30 W37 (Safe.exa (Cx.alike C) f33 (by decide) (by decide))
  have O39 := O31.wr W37 G0
  refine g_aloadN C X35 d2_29 (q := 30) rfl rfl rfl ?_
  refine g_lloadN C X35 d2_30 (q := 31) rfl rfl ?_
  have f40 := (((P3.ext E9).other W29 (Or.inr (slot_ne (Or.inr (w23 hw)) (Or.inr (w19 hw)) (by decide) (t := .long) (t' := (.object "java/lang/String")) (by decide) (by decide)))).other W37 (Or.inr (slot_ne (Or.inr (w23 hw)) (Or.inr (w21 hw)) (by decide) (t := .long) (t' := (.object "java/lang/String")) (by decide) (by decide))))
  have f41 := (f33.wr W37)
  refine g_putF C X35 (host := "") (Or.inl (w22 hw)) Via.refl f40 f41 (Or.inr ⟨(w23 hw), rfl, rfl⟩) (w5 hw) (ty := .long) (by decide) rfl rfl d2_31 (q := 34) rfl G0 ?_
  intro T42 h44 X43 W45
  have FW45 := Fld.same W45 f40
  have Y46 := Wx.wr Y38 W45 (Safe.exa (Cx.alike C) f41 (by decide) (by decide))
  have O47 := O39.wr W45 G0
  refine g_aloadN C X43 d2_34 (q := 35) rfl rfl rfl ?_
  refine g_aload C X43 d2_35 (q := 37) rfl rfl Q1 ?_
  have f48 := ((((P4.ext E9).other W29 (Or.inr (slot_ne (Or.inr (w25 hw)) (Or.inr (w19 hw)) (by decide) (t := (.object "java/lang/String")) (t' := (.object "java/lang/String")) (by decide) (by decide)))).other W37 (Or.inr (slot_ne (Or.inr (w25 hw)) (Or.inr (w21 hw)) (by decide) (t := (.object "java/lang/String")) (t' := (.object "java/lang/String")) (by decide) (by decide)))).other W45 (Or.inr (slot_ne (Or.inr (w25 hw)) (Or.inr (w23 hw)) (by decide) (t := (.object "java/lang/String")) (t' := .long) (by decide) (by decide))))
  have f49 := (f41.wr W45)
  refine g_putF C X43 (host := "") (Or.inl (w24 hw)) Via.refl f48 f49 (Or.inr ⟨(w25 hw), rfl, rfl⟩) (w5 hw) (ty := (.object "java/lang/String")) (by decide) (own_narR Q1) (own_fitR Q1) d2_37 (q := 40) rfl G0 ?_
  intro T50 h52 X51 W53
  have FW53 := Fld.same W53 f48
  have Y54 := Wx.wr Y46 W53 (Safe.exa (Cx.alike C) f49 (by decide) (by decide))
  have O55 := O47.wr W53 G0
  exact gW_retV C X51 Y54 (own_EL hw) d2_40 (by decide) (by decide) ⟨rfl, ((((((Keep.refl h0 [o0]).ext E9).wr W29 (Or.inl (List.mem_of_getElem? (i := 0) rfl))).wr W37 (Or.inl (List.mem_of_getElem? (i := 0) rfl))).wr W45 (Or.inl (List.mem_of_getElem? (i := 0) rfl))).wr W53 (Or.inl (List.mem_of_getElem? (i := 0) rfl))), (f49.wr W53), (((FW29.other W37 (Or.inr (slot_ne (Or.inr (w19 hw)) (Or.inr (w21 hw)) (by decide) (t := (.object "java/lang/String")) (t' := (.object "java/lang/String")) (by decide) (by decide)))).other W45 (Or.inr (slot_ne (Or.inr (w19 hw)) (Or.inr (w23 hw)) (by decide) (t := (.object "java/lang/String")) (t' := .long) (by decide) (by decide)))).other W53 (Or.inr (slot_ne (Or.inr (w19 hw)) (Or.inr (w25 hw)) (by decide) (t := (.object "java/lang/String")) (t' := (.object "java/lang/String")) (by decide) (by decide)))), ((FW37.other W45 (Or.inr (slot_ne (Or.inr (w21 hw)) (Or.inr (w23 hw)) (by decide) (t := (.object "java/lang/String")) (t' := .long) (by decide) (by decide)))).other W53 (Or.inr (slot_ne (Or.inr (w21 hw)) (Or.inr (w25 hw)) (by decide) (t := (.object "java/lang/String")) (t' := (.object "java/lang/String")) (by decide) (by decide)))), (FW45.other W53 (Or.inr (slot_ne (Or.inr (w23 hw)) (Or.inr (w25 hw)) (by decide) (t := .long) (t' := (.object "java/lang/String")) (by decide) (by decide)))), FW53⟩
set_option maxRecDepth 65536 in
set_option maxHeartbeats 40000000 in
theorem rm_cod_2 {l : Launch} {Z : State} {a0 : Array Value} (hw : ∀ d ∈ tables_1, d.before a0 Z = true) {cz : Int32} {fm : Value} {o0 : Addr} {i1 : Int32} {h0 : Heap} {n0 : Nat} (O : Old Z n0 h0) (W : Wd Z cz fm)  (P0 : Exa Z h0 o0 "java/lang/String") (P1 : Str Z h0 o0 [(87 : Int32), i1]) (G0 : n0 ≤ o0) (Q0 : 0 ≤ i1.toInt) (Q1 : i1.toInt ≤ 255) (Q2 : ¬ i1 = (47 : Int32)) :
    Met1 l Z (⟨"java/lang/String", "coder", "()B"⟩ : MethodName) jdk_42_method_152_code 1 (some .byte) ({ frames := 0, cells := 0, slots := 0, locals := 0 } : Room) #[(.ref o0)] h0 n0 (fun v h => v = (.int (0 : Int32)) ∧ h0 = h) := by
  refine met_of (L := #[.val (.ref o0)]) (plainFor_of_name pn_32) (fun m => by first | (simp [entryFrame, mkF, argsToLocals, Value.category]; done) | rfl) ?_
  intro p e s m below meth c T C X
  change Cx p s m meth c Z "java/lang/String" jdk_42_method_152_code 1 (some .byte) "coder" at C
  refine g_getS C X (host := "") (Or.inl (w43 hw)) Via.refl (W.1.ext O.2) d14_0 (q := 3) rfl ?_
  intro T1 X2
  refine g_ifN C X2 d14_3 (q := 6) rfl (feq W.2.1).1 ?_
  refine g_aloadN C X2 d14_6 (q := 7) rfl rfl rfl ?_
  have F3 := P1
  obtain ⟨b4, kA5, f6, f7, f8, f9, -, -⟩ := F3
  have V10 : Arv Z h0 b4 kA5 .byte (2 : Int32) [(.int (87 : Int32)), (.int (i1.toInt8.toInt32))] (.int 0) := f9
  refine g_getF C X2 (host := "") (Or.inl (w55 hw)) Via.refl f8 d14_7 (q := 10) rfl ?_
  intro T11 X12
  refine g_goto C X12 d14_10 (by decide) (q := 14) (by decide) ?_
  exact g_retN C X12 (Or.inr (Or.inl rfl)) (z' := (0 : Int32)) (by decide) d14_14 (by decide) (by decide) ⟨_, rfl, rfl, rfl⟩
set_option maxRecDepth 65536 in
set_option maxHeartbeats 40000000 in
theorem rm_mis_1 {l : Launch} {Z : State} {a0 : Array Value} (hw : ∀ d ∈ tables_1, d.before a0 Z = true) {cz : Int32} {fm : Value} {o0 : Addr} {o1 : Addr} {kc2 : ClassId} {i3 : Int32} {kc4 : ClassId} {h0 : Heap} {n0 : Nat} (O : Old Z n0 h0) (W : Wd Z cz fm)  (P0 : Arv Z h0 o0 kc2 .byte (2 : Int32) [(.int (87 : Int32)), (.int i3)] (.int (0 : Int32))) (P1 : Arv Z h0 o1 kc4 .byte (2 : Int32) [(.int (87 : Int32)), (.int (47 : Int32))] (.int (0 : Int32))) (Q0 : ¬ i3 = (47 : Int32)) :
    Met1 l Z (⟨"jdk/internal/util/ArraysSupport", "mismatch", "([BI[BII)I"⟩ : MethodName) jdk_48_method_14_code 8 (some .int) ({ frames := 0, cells := 0, slots := 0, locals := 0 } : Room) #[(.ref o0), (.int (0 : Int32)), (.ref o1), (.int (0 : Int32)), (.int (2 : Int32))] h0 n0 (fun v h => v = (.int (1 : Int32)) ∧ h0 = h) := by
  refine met_of (L := #[.val (.ref o0), .val (.int (0 : Int32)), .val (.ref o1), .val (.int (0 : Int32)), .val (.int (2 : Int32)), .unset, .unset, .unset]) (plainFor_of_name pn_191) (fun m => by first | (simp [entryFrame, mkF, argsToLocals, Value.category]; done) | rfl) ?_
  intro p e s m below meth c T C X
  change Cx p s m meth c Z "jdk/internal/util/ArraysSupport" jdk_48_method_14_code 8 (some .int) "mismatch" at C
  refine g_iconst C X d15_0 (q := 1) rfl (z := (0 : Int32)) rfl ?_
  refine g_istore C X d15_1 (q := 3) rfl (L' := #[.val (.ref o0), .val (.int (0 : Int32)), .val (.ref o1), .val (.int (0 : Int32)), .val (.int (2 : Int32)), .val (.int (0 : Int32)), .unset, .unset]) rfl ?_
  refine g_iload C X d15_3 (q := 5) rfl rfl ?_
  refine g_bipush C X d15_5 (q := 7) rfl (z := (7 : Int32)) rfl ?_
  refine g_icY C X d15_7 (by decide) (q := 70) (by decide) (by decide) ?_
  refine g_iload C X d15_70 (q := 72) rfl rfl ?_
  refine g_iload C X d15_72 (q := 74) rfl rfl ?_
  refine g_icN C X d15_74 (q := 77) rfl (by decide) ?_
  refine g_aloadN C X d15_77 (q := 78) rfl rfl rfl ?_
  refine g_iloadN C X d15_78 (q := 79) rfl rfl ?_
  refine g_iload C X d15_79 (q := 81) rfl rfl ?_
  refine g_iadd C X d15_81 (q := 82) rfl (z := (0 : Int32)) (by decide) ?_
  refine g_baload C X P0 (by decide) (w := (.int (87 : Int32))) rfl d15_82 (q := 83) rfl ?_
  refine g_aloadN C X d15_83 (q := 84) rfl rfl rfl ?_
  refine g_iloadN C X d15_84 (q := 85) rfl rfl ?_
  refine g_iload C X d15_85 (q := 87) rfl rfl ?_
  refine g_iadd C X d15_87 (q := 88) rfl (z := (0 : Int32)) (by decide) ?_
  refine g_baload C X P1 (by decide) (w := (.int (87 : Int32))) rfl d15_88 (q := 89) rfl ?_
  refine g_icY C X d15_89 (by decide) (q := 95) (by decide) (by decide) ?_
  refine g_iinc C X d15_95 (q := 98) rfl rfl (z := (1 : Int32)) (by decide) (L' := #[.val (.ref o0), .val (.int (0 : Int32)), .val (.ref o1), .val (.int (0 : Int32)), .val (.int (2 : Int32)), .val (.int (1 : Int32)), .unset, .unset]) rfl ?_
  refine g_goto C X d15_98 (by decide) (q := 70) (by decide) ?_
  refine g_iload C X d15_70 (q := 72) rfl rfl ?_
  refine g_iload C X d15_72 (q := 74) rfl rfl ?_
  refine g_icN C X d15_74 (q := 77) rfl (by decide) ?_
  refine g_aloadN C X d15_77 (q := 78) rfl rfl rfl ?_
  refine g_iloadN C X d15_78 (q := 79) rfl rfl ?_
  refine g_iload C X d15_79 (q := 81) rfl rfl ?_
  refine g_iadd C X d15_81 (q := 82) rfl (z := (1 : Int32)) (by decide) ?_
  refine g_baload C X P0 (by decide) (w := (.int i3)) rfl d15_82 (q := 83) rfl ?_
  refine g_aloadN C X d15_83 (q := 84) rfl rfl rfl ?_
  refine g_iloadN C X d15_84 (q := 85) rfl rfl ?_
  refine g_iload C X d15_85 (q := 87) rfl rfl ?_
  refine g_iadd C X d15_87 (q := 88) rfl (z := (1 : Int32)) (by decide) ?_
  refine g_baload C X P1 (by decide) (w := (.int (47 : Int32))) rfl d15_88 (q := 89) rfl ?_
  refine g_icN C X d15_89 (q := 92) rfl (feq Q0).1 ?_
  refine g_iload C X d15_92 (q := 94) rfl rfl ?_
  exact g_retI C X d15_94 (by decide) (by decide) ⟨_, rfl, rfl, rfl⟩
set_option maxRecDepth 65536 in
set_option maxHeartbeats 40000000 in
theorem rm_sw2_2 {l : Launch} {Z : State} {a0 : Array Value} (hw : ∀ d ∈ tables_1, d.before a0 Z = true) {cz : Int32} {fm : Value} {o0 : Addr} {o1 : Addr} {i2 : Int32} {h0 : Heap} {n0 : Nat} (O : Old Z n0 h0) (W : Wd Z cz fm)  (P0 : Exa Z h0 o0 "java/lang/String") (P1 : Str Z h0 o0 [(87 : Int32), i2]) (P2 : Exa Z h0 o1 "java/lang/String") (P3 : Str Z h0 o1 [(87 : Int32), (47 : Int32)]) (G0 : n0 ≤ o0) (Q0 : 0 ≤ i2.toInt) (Q1 : i2.toInt ≤ 255) (Q2 : ¬ i2 = (47 : Int32)) :
    Met1 l Z (⟨"java/lang/String", "startsWith", "(Ljava/lang/String;I)Z"⟩ : MethodName) jdk_42_method_75_code 8 (some .boolean) ({ frames := 2, cells := 0, slots := 0, locals := 27 } : Room) #[(.ref o0), (.ref o1), (.int (0 : Int32))] h0 n0 (fun v h => v = (.int (0 : Int32)) ∧ h0 = h) := by
  refine met_of (L := #[.val (.ref o0), .val (.ref o1), .val (.int (0 : Int32)), .unset, .unset, .unset, .unset, .unset]) (plainFor_of_name pn_32) (fun m => by first | (simp [entryFrame, mkF, argsToLocals, Value.category]; done) | rfl) ?_
  intro p e s m below meth c T C X
  change Cx p s m meth c Z "java/lang/String" jdk_42_method_75_code 8 (some .boolean) "startsWith" at C
  refine g_iloadN C X d12_0 (q := 1) rfl rfl ?_
  refine g_ifN C X d12_1 (q := 4) rfl (by decide) ?_
  refine g_iloadN C X d12_4 (q := 5) rfl rfl ?_
  refine g_aloadN C X d12_5 (q := 6) rfl rfl rfl ?_
  refine g_strLen C X (own_wordsLen hw) (w32 hw) (w72 hw) (w73 hw) (w75 hw) (w74 hw) P1 (W.1.ext O.2) W.2.1 (W := 1) (by decide) (by decide) (by decide) (by decide) rfl rfl d12_6 (q := 9) rfl ?_
  intro T1 X2
  change Goes p e below _ (T1.setTop (mkF m 9 #[.val (.ref o0), .val (.ref o1), .val (.int (0 : Int32)), .unset, .unset, .unset, .unset, .unset] ((.int (2 : Int32)) :: [(.int (0 : Int32))])))
  refine g_aloadN C X2 d12_9 (q := 10) rfl rfl rfl ?_
  refine g_strLen C X2 (own_wordsLen hw) (w32 hw) (w72 hw) (w73 hw) (w75 hw) (w74 hw) P3 (W.1.ext O.2) W.2.1 (W := 2) (by decide) (by decide) (by decide) (by decide) rfl rfl d12_10 (q := 13) rfl ?_
  intro T3 X4
  change Goes p e below _ (T3.setTop (mkF m 13 #[.val (.ref o0), .val (.ref o1), .val (.int (0 : Int32)), .unset, .unset, .unset, .unset, .unset] ((.int (2 : Int32)) :: [(.int (2 : Int32)), (.int (0 : Int32))])))
  refine g_isub C X4 d12_13 (q := 14) rfl (z := (0 : Int32)) (by decide) ?_
  refine g_icY C X4 d12_14 (by decide) (q := 19) (by decide) (by decide) ?_
  refine g_aloadN C X4 d12_19 (q := 20) rfl rfl rfl ?_
  have F5 := P1
  obtain ⟨b6, kA7, f8, f9, f10, f11, -, -⟩ := F5
  have V12 : Arv Z h0 b6 kA7 .byte (2 : Int32) [(.int (87 : Int32)), (.int (i2.toInt8.toInt32))] (.int 0) := f11
  refine g_getF C X4 (host := "") (Or.inl (w57 hw)) Via.refl f9 d12_20 (q := 23) rfl ?_
  intro T13 X14
  refine g_astoreN C X14 d12_23 (q := 24) rfl rfl (L' := #[.val (.ref o0), .val (.ref o1), .val (.int (0 : Int32)), .val (.ref b6), .unset, .unset, .unset, .unset]) rfl ?_
  refine g_aloadN C X14 d12_24 (q := 25) rfl rfl rfl ?_
  have F15 := P3
  obtain ⟨b16, kA17, f18, f19, f20, f21, -, -⟩ := F15
  have V22 : Arv Z h0 b16 kA17 .byte (2 : Int32) [(.int (87 : Int32)), (.int (47 : Int32))] (.int 0) := f21
  refine g_getF C X14 (host := "") (Or.inl (w57 hw)) Via.refl f19 d12_25 (q := 28) rfl ?_
  intro T23 X24
  refine g_astore C X24 d12_28 (q := 30) rfl rfl (L' := #[.val (.ref o0), .val (.ref o1), .val (.int (0 : Int32)), .val (.ref b6), .val (.ref b16), .unset, .unset, .unset]) rfl ?_
  refine g_iconst C X24 d12_30 (q := 31) rfl (z := (0 : Int32)) rfl ?_
  refine g_istore C X24 d12_31 (q := 33) rfl (L' := #[.val (.ref o0), .val (.ref o1), .val (.int (0 : Int32)), .val (.ref b6), .val (.ref b16), .val (.int (0 : Int32)), .unset, .unset]) rfl ?_
  refine g_aload C X24 d12_33 (q := 35) rfl rfl rfl ?_
  refine g_alen C X24 V22 d12_35 (q := 36) rfl ?_
  refine g_istore C X24 d12_36 (q := 38) rfl (L' := #[.val (.ref o0), .val (.ref o1), .val (.int (0 : Int32)), .val (.ref b6), .val (.ref b16), .val (.int (0 : Int32)), .val (.int (2 : Int32)), .unset]) rfl ?_
  refine g_aloadN C X24 d12_38 (q := 39) rfl rfl rfl ?_
  refine g_callV1 C X24 (y := (⟨"java/lang/String", "coder", "()B"⟩ : MethodName)) (z := (⟨"java/lang/String", "coder", "()B"⟩ : MethodName)) (a := o0) (by decide) (w77 hw) (w78 hw) (w80 hw) (w79 hw) (nf_sel (w80 hw)) P0 (w81 hw) (w33 hw) (rm_cod_2 hw (o0 := o0) (i1 := i2) O W P0 P1 G0 Q0 Q1 Q2) (W := 0) (by decide) (by decide) (k' := 0) rfl (n' := 0) rfl (by decide) (by decide) rfl pd_153 (argsL := []) rfl (rest := []) rfl rfl rfl d12_39 (q := 42) rfl ?_
  rintro _ T25 _ X26 ⟨rfl, rfl⟩
  refine g_istore C X26 d12_42 (q := 44) rfl (L' := #[.val (.ref o0), .val (.ref o1), .val (.int (0 : Int32)), .val (.ref b6), .val (.ref b16), .val (.int (0 : Int32)), .val (.int (2 : Int32)), .val (.int (0 : Int32))]) rfl ?_
  refine g_iload C X26 d12_44 (q := 46) rfl rfl ?_
  refine g_aloadN C X26 d12_46 (q := 47) rfl rfl rfl ?_
  refine g_callV1 C X26 (y := (⟨"java/lang/String", "coder", "()B"⟩ : MethodName)) (z := (⟨"java/lang/String", "coder", "()B"⟩ : MethodName)) (a := o1) (by decide) (w77 hw) (w78 hw) (w80 hw) (w79 hw) (nf_sel (w80 hw)) P2 (w81 hw) (w33 hw) (rm_cod_1 hw (o0 := o1) O W P2 P3) (W := 1) (by decide) (by decide) (k' := 0) rfl (n' := 0) rfl (by decide) (by decide) rfl pd_153 (argsL := []) rfl (rest := [(.int (0 : Int32))]) rfl rfl rfl d12_47 (q := 50) rfl ?_
  rintro _ T27 _ X28 ⟨rfl, rfl⟩
  refine g_icN C X28 d12_50 (q := 53) rfl (by decide) ?_
  refine g_iload C X28 d12_53 (q := 55) rfl rfl ?_
  refine g_iconst C X28 d12_55 (q := 56) rfl (z := (1 : Int32)) rfl ?_
  refine g_icY C X28 d12_56 (by decide) (q := 63) (by decide) (by decide) ?_
  refine g_aloadN C X28 d12_63 (q := 64) rfl rfl rfl ?_
  refine g_iloadN C X28 d12_64 (q := 65) rfl rfl ?_
  refine g_aload C X28 d12_65 (q := 67) rfl rfl rfl ?_
  refine g_iconst C X28 d12_67 (q := 68) rfl (z := (0 : Int32)) rfl ?_
  refine g_iload C X28 d12_68 (q := 70) rfl rfl ?_
  refine g_callS1 C X28 (y := (⟨"jdk/internal/util/ArraysSupport", "mismatch", "([BI[BII)I"⟩ : MethodName)) (by decide) (w82 hw) (w83 hw) (w85 hw) (w84 hw) (rm_mis_1 hw (o0 := b6) (o1 := b16) (kc2 := kA7) (i3 := (i2.toInt8.toInt32)) (kc4 := kA17) O W V12 V22 (own_b8 Q0 Q1 (by decide) (by decide) Q2)) (W := 0) (by decide) (by decide) (k' := 0) rfl (n' := 0) rfl (by decide) (by decide) rfl pd_192 (argsL := [(.ref b6), (.int (0 : Int32)), (.ref b16), (.int (0 : Int32)), (.int (2 : Int32))]) rfl (rest := []) rfl rfl rfl d12_70 (q := 73) rfl ?_
  rintro _ T29 _ X30 ⟨rfl, rfl⟩
  refine g_ifY C X30 d12_73 (by decide) (q := 80) (by decide) (by decide) ?_
  refine g_iconst C X30 d12_80 (q := 81) rfl (z := (0 : Int32)) rfl ?_
  exact g_retN C X30 (Or.inl rfl) (z' := (0 : Int32)) (by decide) d12_81 (by decide) (by decide) ⟨_, rfl, rfl, rfl⟩
set_option maxRecDepth 65536 in
set_option maxHeartbeats 40000000 in
theorem rm_sw1_2 {l : Launch} {Z : State} {a0 : Array Value} (hw : ∀ d ∈ tables_1, d.before a0 Z = true) {cz : Int32} {fm : Value} {o0 : Addr} {o1 : Addr} {i2 : Int32} {h0 : Heap} {n0 : Nat} (O : Old Z n0 h0) (W : Wd Z cz fm)  (P0 : Exa Z h0 o0 "java/lang/String") (P1 : Str Z h0 o0 [(87 : Int32), i2]) (P2 : Exa Z h0 o1 "java/lang/String") (P3 : Str Z h0 o1 [(87 : Int32), (47 : Int32)]) (G0 : n0 ≤ o0) (Q0 : 0 ≤ i2.toInt) (Q1 : i2.toInt ≤ 255) (Q2 : ¬ i2 = (47 : Int32)) :
    Met1 l Z (⟨"java/lang/String", "startsWith", "(Ljava/lang/String;)Z"⟩ : MethodName) jdk_42_method_76_code 2 (some .boolean) ({ frames := 3, cells := 0, slots := 0, locals := 46 } : Room) #[(.ref o0), (.ref o1)] h0 n0 (fun v h => v = (.int (0 : Int32)) ∧ h0 = h) := by
  refine met_of (L := #[.val (.ref o0), .val (.ref o1)]) (plainFor_of_name pn_32) (fun m => by first | (simp [entryFrame, mkF, argsToLocals, Value.category]; done) | rfl) ?_
  intro p e s m below meth c T C X
  change Cx p s m meth c Z "java/lang/String" jdk_42_method_76_code 2 (some .boolean) "startsWith" at C
  refine g_aloadN C X d11_0 (q := 1) rfl rfl rfl ?_
  refine g_aloadN C X d11_1 (q := 2) rfl rfl rfl ?_
  refine g_iconst C X d11_2 (q := 3) rfl (z := (0 : Int32)) rfl ?_
  refine g_callV1 C X (y := (⟨"java/lang/String", "startsWith", "(Ljava/lang/String;I)Z"⟩ : MethodName)) (z := (⟨"java/lang/String", "startsWith", "(Ljava/lang/String;I)Z"⟩ : MethodName)) (a := o0) (by decide) (w67 hw) (w68 hw) (w70 hw) (w69 hw) (nf_sel (w70 hw)) P0 (w71 hw) (w33 hw) (rm_sw2_2 hw (o0 := o0) (o1 := o1) (i2 := i2) O W P0 P1 P2 P3 G0 Q0 Q1 Q2) (W := 0) (by decide) (by decide) (k' := 0) rfl (n' := 0) rfl (by decide) (by decide) rfl pd_130 (argsL := [(.ref o1), (.int (0 : Int32))]) rfl (rest := []) rfl rfl rfl d11_3 (q := 6) rfl ?_
  rintro _ T1 _ X2 ⟨rfl, rfl⟩
  exact g_retN C X2 (Or.inl rfl) (z' := (0 : Int32)) (by decide) d11_6 (by decide) (by decide) ⟨_, rfl, rfl, rfl⟩
set_option maxRecDepth 65536 in
set_option maxHeartbeats 40000000 in
theorem rm_init_3 {l : Launch} {Z : State} {a0 : Array Value} (hw : ∀ d ∈ tables_1, d.before a0 Z = true) {cz : Int32} {fm : Value} {o0 : Addr} {o1 : Addr} {i2 : Int32} {av3 : Value} {j4 : Int64} {av5 : Value} {h0 : Heap} {n0 : Nat} (O : Old Z n0 h0) (W : Wd Z cz fm)  (P0 : Exa Z h0 o0 "com/example/jetway/jetway/Fetcher$Validators") (P1 : Fld Z h0 o0 "com/example/jetway/jetway/Fetcher$Validators" "lastModified" "Ljava/lang/String;" .null) (P2 : Fld Z h0 o0 "com/example/jetway/jetway/Fetcher$Validators" "entityTag" "Ljava/lang/String;" .null) (P3 : Fld Z h0 o0 "com/example/jetway/jetway/Fetcher$Validators" "length" "J" (.long (0 : Int64))) (P4 : Fld Z h0 o0 "com/example/jetway/jetway/Fetcher$Validators" "versionId" "Ljava/lang/String;" .null) (P5 : Exa Z h0 o1 "java/lang/String") (P6 : Str Z h0 o1 [(87 : Int32), i2]) (G0 : n0 ≤ o0) (G1 : n0 ≤ o1) (N0_1 : o0 ≠ o1) (Q0 : av3.isRef = true) (Q1 : av5.isRef = true) (Q2 : 0 ≤ i2.toInt) (Q3 : i2.toInt ≤ 255) (Q4 : ¬ i2 = (47 : Int32)) :
    MetW0 l Z consts_1 (⟨"com/example/jetway/jetway/Fetcher$Validators", "<init>", "(Ljava/lang/String;Ljava/lang/String;JLjava/lang/String;)V"⟩ : MethodName) prog_37_method_1_code 6 none ({ frames := 4, cells := 2, slots := 12, locals := 59 } : Room) #[(.ref o0), av3, (.ref o1), (.long j4), av5] h0 n0 (fun h => Keep h0 h [o0] ∧ Exa Z h o0 "com/example/jetway/jetway/Fetcher$Validators" ∧ Fld Z h o0 "com/example/jetway/jetway/Fetcher$Validators" "lastModified" "Ljava/lang/String;" av3 ∧ Fld Z h o0 "com/example/jetway/jetway/Fetcher$Validators" "entityTag" "Ljava/lang/String;" (.ref o1) ∧ Fld Z h o0 "com/example/jetway/jetway/Fetcher$Validators" "length" "J" (.long j4) ∧ Fld Z h o0 "com/example/jetway/jetway/Fetcher$Validators" "versionId" "Ljava/lang/String;" av5) := by
  refine metW_of (L := #[.val (.ref o0), .val av3, .val (.ref o1), .val (.long j4), .second, .val av5]) (plainFor_of_name pn_96) (fun m => by (cases av3 <;> first | exact absurd Q0 Bool.false_ne_true | skip) <;> (cases av5 <;> first | exact absurd Q1 Bool.false_ne_true | skip) <;> first | (simp [entryFrame, mkF, argsToLocals, Value.category]; done) | rfl) ?_
  intro p e s m below meth c T vm C X Y
  change Cx p (s.setVm vm) m meth c Z "com/example/jetway/jetway/Fetcher$Validators" prog_37_method_1_code 6 none "<init>" at C
  refine g_aloadN C X d2_0 (q := 1) rfl rfl rfl ?_
  refine g_callI0 C X (y := (⟨"java/lang/Record", "<init>", "()V"⟩ : MethodName)) (a := o0) (by decide) rfl (w10 hw) (w11 hw) (w14 hw) (w13 hw) (rm_rec_0 hw (o0 := o0) O W P0 P1 P2 P3 P4 G0) (W := 0) (by decide) (by decide) (k' := 0) rfl (n' := 0) rfl (by decide) (by decide) rfl pd_80 (argsL := []) rfl (rest := []) rfl rfl rfl d2_1 (q := 4) rfl ?_
  rintro T1 _ X2 rfl
  refine g_aloadN C X2 d2_4 (q := 5) rfl rfl rfl ?_
  refine g_nulN C X2 d2_5 (q := 8) rfl ?_
  refine g_aloadN C X2 d2_8 (q := 9) rfl rfl rfl ?_
  refine gW_ldcC C X2 Y (own_EL hw) (vs := [(.int (87 : Int32)), (.int (47 : Int32))]) (z := 2) (w59 hw) (own_SA hw) (List.mem_of_getElem? (i := 0) rfl) ⟨by decide, by decide +kernel⟩ (by decide) rfl d2_9 (q := 11) rfl (nn := 8) (by decide) (by decide) (k' := 2) rfl (n' := 12) rfl (by decide) (by decide) ?_
  intro b3 b11 kA12 T4 h5 vm6 C X7 Y8 E9 R10 f13 f14 f15 f16 sf17
  have O18 := O.ext E9
  have F19 : Str Z h5 b3 [(87 : Int32), (47 : Int32)] := ⟨b11, kA12, f13, f15, f14, f16, by decide, by decide⟩
  have f20 := (P5.ext E9)
  have f21 := (P6.ext E9)
  refine g_callV1 C X7 (y := (⟨"java/lang/String", "startsWith", "(Ljava/lang/String;)Z"⟩ : MethodName)) (z := (⟨"java/lang/String", "startsWith", "(Ljava/lang/String;)Z"⟩ : MethodName)) (a := o1) (by decide) (w62 hw) (w63 hw) (w65 hw) (w64 hw) (nf_sel (w65 hw)) f20 (w66 hw) (w33 hw) (rm_sw1_2 hw (o0 := o1) (o1 := b3) (i2 := i2) O18 W f20 f21 f13 F19 G1 Q2 Q3 Q4) (W := 0) (by decide) (by decide) (k' := 2) rfl (n' := 12) rfl (by decide) (by decide) rfl pd_132 (argsL := [(.ref b3)]) rfl (rest := []) rfl rfl rfl d2_11 (q := 14) rfl ?_
  rintro _ T22 _ X23 ⟨rfl, rfl⟩
  refine g_ifY C X23 d2_14 (by decide) (q := 19) (by decide) (by decide) ?_
  refine g_aloadN C X23 d2_19 (q := 20) rfl rfl rfl ?_
  refine g_aloadN C X23 d2_20 (q := 21) rfl rfl Q0 ?_
  have f24 := (P1.ext E9)
  have f25 := (P0.ext E9)
  refine g_putF C X23 (host := "") (Or.inl (w18 hw)) Via.refl f24 f25 (Or.inr ⟨(w19 hw), rfl, rfl⟩) (w5 hw) (ty := (.object "java/lang/String")) (by decide) (own_narR Q0) (own_fitR Q0) d2_21 (q := 24) rfl G0 ?_
  intro T26 h28 X27 W29
  have FW29 := Fld.same W29 f24
  have Y30 := Wx.wr Y8 W29 (Safe.exa (Cx.alike C) f25 (by decide) (by decide))
  have O31 := O18.wr W29 G0
  refine g_aloadN C X27 d2_24 (q := 25) rfl rfl rfl ?_
  refine g_aloadN C X27 d2_25 (q := 26) rfl rfl rfl ?_
  have f32 := ((P2.ext E9).other W29 (Or.inr (slot_ne (Or.inr (w21 hw)) (Or.inr (w19 hw)) (by decide) (t := (.object "java/lang/String")) (t' := (.object "java/lang/String")) (by decide) (by decide))))
  have f33 := (f25.wr W29)
  refine g_putF C X27 (host := "") (Or.inl (w20 hw)) Via.refl f32 f33 (Or.inr ⟨(w21 hw), rfl, rfl⟩) (w5 hw) (ty := (.object "java/lang/String")) (by decide) rfl rfl d2_26 (q := 29) rfl G0 ?_
  intro T34 h36 X35 W37
  have FW37 := Fld.same W37 f32
  have Y38 := Wx.wr Y30 W37 (Safe.exa (Cx.alike C) f33 (by decide) (by decide))
  have O39 := O31.wr W37 G0
  refine g_aloadN C X35 d2_29 (q := 30) rfl rfl rfl ?_
  refine g_lloadN C X35 d2_30 (q := 31) rfl rfl ?_
  have f40 := (((P3.ext E9).other W29 (Or.inr (slot_ne (Or.inr (w23 hw)) (Or.inr (w19 hw)) (by decide) (t := .long) (t' := (.object "java/lang/String")) (by decide) (by decide)))).other W37 (Or.inr (slot_ne (Or.inr (w23 hw)) (Or.inr (w21 hw)) (by decide) (t := .long) (t' := (.object "java/lang/String")) (by decide) (by decide))))
  have f41 := (f33.wr W37)
  refine g_putF C X35 (host := "") (Or.inl (w22 hw)) Via.refl f40 f41 (Or.inr ⟨(w23 hw), rfl, rfl⟩) (w5 hw) (ty := .long) (by decide) rfl rfl d2_31 (q := 34) rfl G0 ?_
  intro T42 h44 X43 W45
  have FW45 := Fld.same W45 f40
  have Y46 := Wx.wr Y38 W45 (Safe.exa (Cx.alike C) f41 (by decide) (by decide))
  have O47 := O39.wr W45 G0
  refine g_aloadN C X43 d2_34 (q := 35) rfl rfl rfl ?_
  refine g_aload C X43 d2_35 (q := 37) rfl rfl Q1 ?_
  have f48 := ((((P4.ext E9).other W29 (Or.inr (slot_ne (Or.inr (w25 hw)) (Or.inr (w19 hw)) (by decide) (t := (.object "java/lang/String")) (t' := (.object "java/lang/String")) (by decide) (by decide)))).other W37 (Or.inr (slot_ne (Or.inr (w25 hw)) (Or.inr (w21 hw)) (by decide) (t := (.object "java/lang/String")) (t' := (.object "java/lang/String")) (by decide) (by decide)))).other W45 (Or.inr (slot_ne (Or.inr (w25 hw)) (Or.inr (w23 hw)) (by decide) (t := (.object "java/lang/String")) (t' := .long) (by decide) (by decide))))
  have f49 := (f41.wr W45)
  refine g_putF C X43 (host := "") (Or.inl (w24 hw)) Via.refl f48 f49 (Or.inr ⟨(w25 hw), rfl, rfl⟩) (w5 hw) (ty := (.object "java/lang/String")) (by decide) (own_narR Q1) (own_fitR Q1) d2_37 (q := 40) rfl G0 ?_
  intro T50 h52 X51 W53
  have FW53 := Fld.same W53 f48
  have Y54 := Wx.wr Y46 W53 (Safe.exa (Cx.alike C) f49 (by decide) (by decide))
  have O55 := O47.wr W53 G0
  exact gW_retV C X51 Y54 (own_EL hw) d2_40 (by decide) (by decide) ⟨rfl, ((((((Keep.refl h0 [o0]).ext E9).wr W29 (Or.inl (List.mem_of_getElem? (i := 0) rfl))).wr W37 (Or.inl (List.mem_of_getElem? (i := 0) rfl))).wr W45 (Or.inl (List.mem_of_getElem? (i := 0) rfl))).wr W53 (Or.inl (List.mem_of_getElem? (i := 0) rfl))), (f49.wr W53), (((FW29.other W37 (Or.inr (slot_ne (Or.inr (w19 hw)) (Or.inr (w21 hw)) (by decide) (t := (.object "java/lang/String")) (t' := (.object "java/lang/String")) (by decide) (by decide)))).other W45 (Or.inr (slot_ne (Or.inr (w19 hw)) (Or.inr (w23 hw)) (by decide) (t := (.object "java/lang/String")) (t' := .long) (by decide) (by decide)))).other W53 (Or.inr (slot_ne (Or.inr (w19 hw)) (Or.inr (w25 hw)) (by decide) (t := (.object "java/lang/String")) (t' := (.object "java/lang/String")) (by decide) (by decide)))), ((FW37.other W45 (Or.inr (slot_ne (Or.inr (w21 hw)) (Or.inr (w23 hw)) (by decide) (t := (.object "java/lang/String")) (t' := .long) (by decide) (by decide)))).other W53 (Or.inr (slot_ne (Or.inr (w21 hw)) (Or.inr (w25 hw)) (by decide) (t := (.object "java/lang/String")) (t' := (.object "java/lang/String")) (by decide) (by decide)))), (FW45.other W53 (Or.inr (slot_ne (Or.inr (w23 hw)) (Or.inr (w25 hw)) (by decide) (t := .long) (t' := (.object "java/lang/String")) (by decide) (by decide)))), FW53⟩
set_option maxRecDepth 65536 in
set_option maxHeartbeats 40000000 in
theorem rm_cod_3 {l : Launch} {Z : State} {a0 : Array Value} (hw : ∀ d ∈ tables_1, d.before a0 Z = true) {cz : Int32} {fm : Value} {o0 : Addr} {i1 : Int32} {i2 : Int32} {h0 : Heap} {n0 : Nat} (O : Old Z n0 h0) (W : Wd Z cz fm)  (P0 : Exa Z h0 o0 "java/lang/String") (P1 : Str Z h0 o0 [i1, i2]) (G0 : n0 ≤ o0) (Q0 : 0 ≤ i1.toInt) (Q1 : i1.toInt ≤ 255) (Q2 : ¬ i1 = (87 : Int32)) (Q3 : 0 ≤ i2.toInt) (Q4 : i2.toInt ≤ 255) :
    Met1 l Z (⟨"java/lang/String", "coder", "()B"⟩ : MethodName) jdk_42_method_152_code 1 (some .byte) ({ frames := 0, cells := 0, slots := 0, locals := 0 } : Room) #[(.ref o0)] h0 n0 (fun v h => v = (.int (0 : Int32)) ∧ h0 = h) := by
  refine met_of (L := #[.val (.ref o0)]) (plainFor_of_name pn_32) (fun m => by first | (simp [entryFrame, mkF, argsToLocals, Value.category]; done) | rfl) ?_
  intro p e s m below meth c T C X
  change Cx p s m meth c Z "java/lang/String" jdk_42_method_152_code 1 (some .byte) "coder" at C
  refine g_getS C X (host := "") (Or.inl (w43 hw)) Via.refl (W.1.ext O.2) d14_0 (q := 3) rfl ?_
  intro T1 X2
  refine g_ifN C X2 d14_3 (q := 6) rfl (feq W.2.1).1 ?_
  refine g_aloadN C X2 d14_6 (q := 7) rfl rfl rfl ?_
  have F3 := P1
  obtain ⟨b4, kA5, f6, f7, f8, f9, -, -⟩ := F3
  have V10 : Arv Z h0 b4 kA5 .byte (2 : Int32) [(.int (i1.toInt8.toInt32)), (.int (i2.toInt8.toInt32))] (.int 0) := f9
  refine g_getF C X2 (host := "") (Or.inl (w55 hw)) Via.refl f8 d14_7 (q := 10) rfl ?_
  intro T11 X12
  refine g_goto C X12 d14_10 (by decide) (q := 14) (by decide) ?_
  exact g_retN C X12 (Or.inr (Or.inl rfl)) (z' := (0 : Int32)) (by decide) d14_14 (by decide) (by decide) ⟨_, rfl, rfl, rfl⟩
set_option maxRecDepth 65536 in
set_option maxHeartbeats 40000000 in
theorem rm_mis_2 {l : Launch} {Z : State} {a0 : Array Value} (hw : ∀ d ∈ tables_1, d.before a0 Z = true) {cz : Int32} {fm : Value} {o0 : Addr} {o1 : Addr} {kc2 : ClassId} {i3 : Int32} {i4 : Int32} {kc5 : ClassId} {h0 : Heap} {n0 : Nat} (O : Old Z n0 h0) (W : Wd Z cz fm)  (P0 : Arv Z h0 o0 kc2 .byte (2 : Int32) [(.int i3), (.int i4)] (.int (0 : Int32))) (P1 : Arv Z h0 o1 kc5 .byte (2 : Int32) [(.int (87 : Int32)), (.int (47 : Int32))] (.int (0 : Int32))) (Q0 : ¬ i3 = (87 : Int32)) :
    Met1 l Z (⟨"jdk/internal/util/ArraysSupport", "mismatch", "([BI[BII)I"⟩ : MethodName) jdk_48_method_14_code 8 (some .int) ({ frames := 0, cells := 0, slots := 0, locals := 0 } : Room) #[(.ref o0), (.int (0 : Int32)), (.ref o1), (.int (0 : Int32)), (.int (2 : Int32))] h0 n0 (fun v h => v = (.int (0 : Int32)) ∧ h0 = h) := by
  refine met_of (L := #[.val (.ref o0), .val (.int (0 : Int32)), .val (.ref o1), .val (.int (0 : Int32)), .val (.int (2 : Int32)), .unset, .unset, .unset]) (plainFor_of_name pn_191) (fun m => by first | (simp [entryFrame, mkF, argsToLocals, Value.category]; done) | rfl) ?_
  intro p e s m below meth c T C X
  change Cx p s m meth c Z "jdk/internal/util/ArraysSupport" jdk_48_method_14_code 8 (some .int) "mismatch" at C
  refine g_iconst C X d15_0 (q := 1) rfl (z := (0 : Int32)) rfl ?_
  refine g_istore C X d15_1 (q := 3) rfl (L' := #[.val (.ref o0), .val (.int (0 : Int32)), .val (.ref o1), .val (.int (0 : Int32)), .val (.int (2 : Int32)), .val (.int (0 : Int32)), .unset, .unset]) rfl ?_
  refine g_iload C X d15_3 (q := 5) rfl rfl ?_
  refine g_bipush C X d15_5 (q := 7) rfl (z := (7 : Int32)) rfl ?_
  refine g_icY C X d15_7 (by decide) (q := 70) (by decide) (by decide) ?_
  refine g_iload C X d15_70 (q := 72) rfl rfl ?_
  refine g_iload C X d15_72 (q := 74) rfl rfl ?_
  refine g_icN C X d15_74 (q := 77) rfl (by decide) ?_
  refine g_aloadN C X d15_77 (q := 78) rfl rfl rfl ?_
  refine g_iloadN C X d15_78 (q := 79) rfl rfl ?_
  refine g_iload C X d15_79 (q := 81) rfl rfl ?_
  refine g_iadd C X d15_81 (q := 82) rfl (z := (0 : Int32)) (by decide) ?_
  refine g_baload C X P0 (by decide) (w := (.int i3)) rfl d15_82 (q := 83) rfl ?_
  refine g_aloadN C X d15_83 (q := 84) rfl rfl rfl ?_
  refine g_iloadN C X d15_84 (q := 85) rfl rfl ?_
  refine g_iload C X d15_85 (q := 87) rfl rfl ?_
  refine g_iadd C X d15_87 (q := 88) rfl (z := (0 : Int32)) (by decide) ?_
  refine g_baload C X P1 (by decide) (w := (.int (87 : Int32))) rfl d15_88 (q := 89) rfl ?_
  refine g_icN C X d15_89 (q := 92) rfl (feq Q0).1 ?_
  refine g_iload C X d15_92 (q := 94) rfl rfl ?_
  exact g_retI C X d15_94 (by decide) (by decide) ⟨_, rfl, rfl, rfl⟩
set_option maxRecDepth 65536 in
set_option maxHeartbeats 40000000 in
theorem rm_sw2_3 {l : Launch} {Z : State} {a0 : Array Value} (hw : ∀ d ∈ tables_1, d.before a0 Z = true) {cz : Int32} {fm : Value} {o0 : Addr} {o1 : Addr} {i2 : Int32} {i3 : Int32} {h0 : Heap} {n0 : Nat} (O : Old Z n0 h0) (W : Wd Z cz fm)  (P0 : Exa Z h0 o0 "java/lang/String") (P1 : Str Z h0 o0 [i2, i3]) (P2 : Exa Z h0 o1 "java/lang/String") (P3 : Str Z h0 o1 [(87 : Int32), (47 : Int32)]) (G0 : n0 ≤ o0) (Q0 : 0 ≤ i2.toInt) (Q1 : i2.toInt ≤ 255) (Q2 : ¬ i2 = (87 : Int32)) (Q3 : 0 ≤ i3.toInt) (Q4 : i3.toInt ≤ 255) :
    Met1 l Z (⟨"java/lang/String", "startsWith", "(Ljava/lang/String;I)Z"⟩ : MethodName) jdk_42_method_75_code 8 (some .boolean) ({ frames := 2, cells := 0, slots := 0, locals := 27 } : Room) #[(.ref o0), (.ref o1), (.int (0 : Int32))] h0 n0 (fun v h => v = (.int (0 : Int32)) ∧ h0 = h) := by
  refine met_of (L := #[.val (.ref o0), .val (.ref o1), .val (.int (0 : Int32)), .unset, .unset, .unset, .unset, .unset]) (plainFor_of_name pn_32) (fun m => by first | (simp [entryFrame, mkF, argsToLocals, Value.category]; done) | rfl) ?_
  intro p e s m below meth c T C X
  change Cx p s m meth c Z "java/lang/String" jdk_42_method_75_code 8 (some .boolean) "startsWith" at C
  refine g_iloadN C X d12_0 (q := 1) rfl rfl ?_
  refine g_ifN C X d12_1 (q := 4) rfl (by decide) ?_
  refine g_iloadN C X d12_4 (q := 5) rfl rfl ?_
  refine g_aloadN C X d12_5 (q := 6) rfl rfl rfl ?_
  refine g_strLen C X (own_wordsLen hw) (w32 hw) (w72 hw) (w73 hw) (w75 hw) (w74 hw) P1 (W.1.ext O.2) W.2.1 (W := 1) (by decide) (by decide) (by decide) (by decide) rfl rfl d12_6 (q := 9) rfl ?_
  intro T1 X2
  change Goes p e below _ (T1.setTop (mkF m 9 #[.val (.ref o0), .val (.ref o1), .val (.int (0 : Int32)), .unset, .unset, .unset, .unset, .unset] ((.int (2 : Int32)) :: [(.int (0 : Int32))])))
  refine g_aloadN C X2 d12_9 (q := 10) rfl rfl rfl ?_
  refine g_strLen C X2 (own_wordsLen hw) (w32 hw) (w72 hw) (w73 hw) (w75 hw) (w74 hw) P3 (W.1.ext O.2) W.2.1 (W := 2) (by decide) (by decide) (by decide) (by decide) rfl rfl d12_10 (q := 13) rfl ?_
  intro T3 X4
  change Goes p e below _ (T3.setTop (mkF m 13 #[.val (.ref o0), .val (.ref o1), .val (.int (0 : Int32)), .unset, .unset, .unset, .unset, .unset] ((.int (2 : Int32)) :: [(.int (2 : Int32)), (.int (0 : Int32))])))
  refine g_isub C X4 d12_13 (q := 14) rfl (z := (0 : Int32)) (by decide) ?_
  refine g_icY C X4 d12_14 (by decide) (q := 19) (by decide) (by decide) ?_
  refine g_aloadN C X4 d12_19 (q := 20) rfl rfl rfl ?_
  have F5 := P1
  obtain ⟨b6, kA7, f8, f9, f10, f11, -, -⟩ := F5
  have V12 : Arv Z h0 b6 kA7 .byte (2 : Int32) [(.int (i2.toInt8.toInt32)), (.int (i3.toInt8.toInt32))] (.int 0) := f11
  refine g_getF C X4 (host := "") (Or.inl (w57 hw)) Via.refl f9 d12_20 (q := 23) rfl ?_
  intro T13 X14
  refine g_astoreN C X14 d12_23 (q := 24) rfl rfl (L' := #[.val (.ref o0), .val (.ref o1), .val (.int (0 : Int32)), .val (.ref b6), .unset, .unset, .unset, .unset]) rfl ?_
  refine g_aloadN C X14 d12_24 (q := 25) rfl rfl rfl ?_
  have F15 := P3
  obtain ⟨b16, kA17, f18, f19, f20, f21, -, -⟩ := F15
  have V22 : Arv Z h0 b16 kA17 .byte (2 : Int32) [(.int (87 : Int32)), (.int (47 : Int32))] (.int 0) := f21
  refine g_getF C X14 (host := "") (Or.inl (w57 hw)) Via.refl f19 d12_25 (q := 28) rfl ?_
  intro T23 X24
  refine g_astore C X24 d12_28 (q := 30) rfl rfl (L' := #[.val (.ref o0), .val (.ref o1), .val (.int (0 : Int32)), .val (.ref b6), .val (.ref b16), .unset, .unset, .unset]) rfl ?_
  refine g_iconst C X24 d12_30 (q := 31) rfl (z := (0 : Int32)) rfl ?_
  refine g_istore C X24 d12_31 (q := 33) rfl (L' := #[.val (.ref o0), .val (.ref o1), .val (.int (0 : Int32)), .val (.ref b6), .val (.ref b16), .val (.int (0 : Int32)), .unset, .unset]) rfl ?_
  refine g_aload C X24 d12_33 (q := 35) rfl rfl rfl ?_
  refine g_alen C X24 V22 d12_35 (q := 36) rfl ?_
  refine g_istore C X24 d12_36 (q := 38) rfl (L' := #[.val (.ref o0), .val (.ref o1), .val (.int (0 : Int32)), .val (.ref b6), .val (.ref b16), .val (.int (0 : Int32)), .val (.int (2 : Int32)), .unset]) rfl ?_
  refine g_aloadN C X24 d12_38 (q := 39) rfl rfl rfl ?_
  refine g_callV1 C X24 (y := (⟨"java/lang/String", "coder", "()B"⟩ : MethodName)) (z := (⟨"java/lang/String", "coder", "()B"⟩ : MethodName)) (a := o0) (by decide) (w77 hw) (w78 hw) (w80 hw) (w79 hw) (nf_sel (w80 hw)) P0 (w81 hw) (w33 hw) (rm_cod_3 hw (o0 := o0) (i1 := i2) (i2 := i3) O W P0 P1 G0 Q0 Q1 Q2 Q3 Q4) (W := 0) (by decide) (by decide) (k' := 0) rfl (n' := 0) rfl (by decide) (by decide) rfl pd_153 (argsL := []) rfl (rest := []) rfl rfl rfl d12_39 (q := 42) rfl ?_
  rintro _ T25 _ X26 ⟨rfl, rfl⟩
  refine g_istore C X26 d12_42 (q := 44) rfl (L' := #[.val (.ref o0), .val (.ref o1), .val (.int (0 : Int32)), .val (.ref b6), .val (.ref b16), .val (.int (0 : Int32)), .val (.int (2 : Int32)), .val (.int (0 : Int32))]) rfl ?_
  refine g_iload C X26 d12_44 (q := 46) rfl rfl ?_
  refine g_aloadN C X26 d12_46 (q := 47) rfl rfl rfl ?_
  refine g_callV1 C X26 (y := (⟨"java/lang/String", "coder", "()B"⟩ : MethodName)) (z := (⟨"java/lang/String", "coder", "()B"⟩ : MethodName)) (a := o1) (by decide) (w77 hw) (w78 hw) (w80 hw) (w79 hw) (nf_sel (w80 hw)) P2 (w81 hw) (w33 hw) (rm_cod_1 hw (o0 := o1) O W P2 P3) (W := 1) (by decide) (by decide) (k' := 0) rfl (n' := 0) rfl (by decide) (by decide) rfl pd_153 (argsL := []) rfl (rest := [(.int (0 : Int32))]) rfl rfl rfl d12_47 (q := 50) rfl ?_
  rintro _ T27 _ X28 ⟨rfl, rfl⟩
  refine g_icN C X28 d12_50 (q := 53) rfl (by decide) ?_
  refine g_iload C X28 d12_53 (q := 55) rfl rfl ?_
  refine g_iconst C X28 d12_55 (q := 56) rfl (z := (1 : Int32)) rfl ?_
  refine g_icY C X28 d12_56 (by decide) (q := 63) (by decide) (by decide) ?_
  refine g_aloadN C X28 d12_63 (q := 64) rfl rfl rfl ?_
  refine g_iloadN C X28 d12_64 (q := 65) rfl rfl ?_
  refine g_aload C X28 d12_65 (q := 67) rfl rfl rfl ?_
  refine g_iconst C X28 d12_67 (q := 68) rfl (z := (0 : Int32)) rfl ?_
  refine g_iload C X28 d12_68 (q := 70) rfl rfl ?_
  refine g_callS1 C X28 (y := (⟨"jdk/internal/util/ArraysSupport", "mismatch", "([BI[BII)I"⟩ : MethodName)) (by decide) (w82 hw) (w83 hw) (w85 hw) (w84 hw) (rm_mis_2 hw (o0 := b6) (o1 := b16) (kc2 := kA7) (i3 := (i2.toInt8.toInt32)) (i4 := (i3.toInt8.toInt32)) (kc5 := kA17) O W V12 V22 (own_b8 Q0 Q1 (by decide) (by decide) Q2)) (W := 0) (by decide) (by decide) (k' := 0) rfl (n' := 0) rfl (by decide) (by decide) rfl pd_192 (argsL := [(.ref b6), (.int (0 : Int32)), (.ref b16), (.int (0 : Int32)), (.int (2 : Int32))]) rfl (rest := []) rfl rfl rfl d12_70 (q := 73) rfl ?_
  rintro _ T29 _ X30 ⟨rfl, rfl⟩
  refine g_ifY C X30 d12_73 (by decide) (q := 80) (by decide) (by decide) ?_
  refine g_iconst C X30 d12_80 (q := 81) rfl (z := (0 : Int32)) rfl ?_
  exact g_retN C X30 (Or.inl rfl) (z' := (0 : Int32)) (by decide) d12_81 (by decide) (by decide) ⟨_, rfl, rfl, rfl⟩
set_option maxRecDepth 65536 in
set_option maxHeartbeats 40000000 in
theorem rm_sw1_3 {l : Launch} {Z : State} {a0 : Array Value} (hw : ∀ d ∈ tables_1, d.before a0 Z = true) {cz : Int32} {fm : Value} {o0 : Addr} {o1 : Addr} {i2 : Int32} {i3 : Int32} {h0 : Heap} {n0 : Nat} (O : Old Z n0 h0) (W : Wd Z cz fm)  (P0 : Exa Z h0 o0 "java/lang/String") (P1 : Str Z h0 o0 [i2, i3]) (P2 : Exa Z h0 o1 "java/lang/String") (P3 : Str Z h0 o1 [(87 : Int32), (47 : Int32)]) (G0 : n0 ≤ o0) (Q0 : 0 ≤ i2.toInt) (Q1 : i2.toInt ≤ 255) (Q2 : ¬ i2 = (87 : Int32)) (Q3 : 0 ≤ i3.toInt) (Q4 : i3.toInt ≤ 255) :
    Met1 l Z (⟨"java/lang/String", "startsWith", "(Ljava/lang/String;)Z"⟩ : MethodName) jdk_42_method_76_code 2 (some .boolean) ({ frames := 3, cells := 0, slots := 0, locals := 46 } : Room) #[(.ref o0), (.ref o1)] h0 n0 (fun v h => v = (.int (0 : Int32)) ∧ h0 = h) := by
  refine met_of (L := #[.val (.ref o0), .val (.ref o1)]) (plainFor_of_name pn_32) (fun m => by first | (simp [entryFrame, mkF, argsToLocals, Value.category]; done) | rfl) ?_
  intro p e s m below meth c T C X
  change Cx p s m meth c Z "java/lang/String" jdk_42_method_76_code 2 (some .boolean) "startsWith" at C
  refine g_aloadN C X d11_0 (q := 1) rfl rfl rfl ?_
  refine g_aloadN C X d11_1 (q := 2) rfl rfl rfl ?_
  refine g_iconst C X d11_2 (q := 3) rfl (z := (0 : Int32)) rfl ?_
  refine g_callV1 C X (y := (⟨"java/lang/String", "startsWith", "(Ljava/lang/String;I)Z"⟩ : MethodName)) (z := (⟨"java/lang/String", "startsWith", "(Ljava/lang/String;I)Z"⟩ : MethodName)) (a := o0) (by decide) (w67 hw) (w68 hw) (w70 hw) (w69 hw) (nf_sel (w70 hw)) P0 (w71 hw) (w33 hw) (rm_sw2_3 hw (o0 := o0) (o1 := o1) (i2 := i2) (i3 := i3) O W P0 P1 P2 P3 G0 Q0 Q1 Q2 Q3 Q4) (W := 0) (by decide) (by decide) (k' := 0) rfl (n' := 0) rfl (by decide) (by decide) rfl pd_130 (argsL := [(.ref o1), (.int (0 : Int32))]) rfl (rest := []) rfl rfl rfl d11_3 (q := 6) rfl ?_
  rintro _ T1 _ X2 ⟨rfl, rfl⟩
  exact g_retN C X2 (Or.inl rfl) (z' := (0 : Int32)) (by decide) d11_6 (by decide) (by decide) ⟨_, rfl, rfl, rfl⟩
set_option maxRecDepth 65536 in
set_option maxHeartbeats 40000000 in
theorem rm_init_4 {l : Launch} {Z : State} {a0 : Array Value} (hw : ∀ d ∈ tables_1, d.before a0 Z = true) {cz : Int32} {fm : Value} {o0 : Addr} {o1 : Addr} {i2 : Int32} {i3 : Int32} {av4 : Value} {j5 : Int64} {av6 : Value} {h0 : Heap} {n0 : Nat} (O : Old Z n0 h0) (W : Wd Z cz fm)  (P0 : Exa Z h0 o0 "com/example/jetway/jetway/Fetcher$Validators") (P1 : Fld Z h0 o0 "com/example/jetway/jetway/Fetcher$Validators" "lastModified" "Ljava/lang/String;" .null) (P2 : Fld Z h0 o0 "com/example/jetway/jetway/Fetcher$Validators" "entityTag" "Ljava/lang/String;" .null) (P3 : Fld Z h0 o0 "com/example/jetway/jetway/Fetcher$Validators" "length" "J" (.long (0 : Int64))) (P4 : Fld Z h0 o0 "com/example/jetway/jetway/Fetcher$Validators" "versionId" "Ljava/lang/String;" .null) (P5 : Exa Z h0 o1 "java/lang/String") (P6 : Str Z h0 o1 [i2, i3]) (G0 : n0 ≤ o0) (G1 : n0 ≤ o1) (N0_1 : o0 ≠ o1) (Q0 : av4.isRef = true) (Q1 : av6.isRef = true) (Q2 : 0 ≤ i2.toInt) (Q3 : i2.toInt ≤ 255) (Q4 : ¬ i2 = (87 : Int32)) (Q5 : 0 ≤ i3.toInt) (Q6 : i3.toInt ≤ 255) :
    MetW0 l Z consts_1 (⟨"com/example/jetway/jetway/Fetcher$Validators", "<init>", "(Ljava/lang/String;Ljava/lang/String;JLjava/lang/String;)V"⟩ : MethodName) prog_37_method_1_code 6 none ({ frames := 4, cells := 2, slots := 12, locals := 59 } : Room) #[(.ref o0), av4, (.ref o1), (.long j5), av6] h0 n0 (fun h => Keep h0 h [o0] ∧ Exa Z h o0 "com/example/jetway/jetway/Fetcher$Validators" ∧ Fld Z h o0 "com/example/jetway/jetway/Fetcher$Validators" "lastModified" "Ljava/lang/String;" av4 ∧ Fld Z h o0 "com/example/jetway/jetway/Fetcher$Validators" "entityTag" "Ljava/lang/String;" (.ref o1) ∧ Fld Z h o0 "com/example/jetway/jetway/Fetcher$Validators" "length" "J" (.long j5) ∧ Fld Z h o0 "com/example/jetway/jetway/Fetcher$Validators" "versionId" "Ljava/lang/String;" av6) := by
  refine metW_of (L := #[.val (.ref o0), .val av4, .val (.ref o1), .val (.long j5), .second, .val av6]) (plainFor_of_name pn_96) (fun m => by (cases av4 <;> first | exact absurd Q0 Bool.false_ne_true | skip) <;> (cases av6 <;> first | exact absurd Q1 Bool.false_ne_true | skip) <;> first | (simp [entryFrame, mkF, argsToLocals, Value.category]; done) | rfl) ?_
  intro p e s m below meth c T vm C X Y
  change Cx p (s.setVm vm) m meth c Z "com/example/jetway/jetway/Fetcher$Validators" prog_37_method_1_code 6 none "<init>" at C
  refine g_aloadN C X d2_0 (q := 1) rfl rfl rfl ?_
  refine g_callI0 C X (y := (⟨"java/lang/Record", "<init>", "()V"⟩ : MethodName)) (a := o0) (by decide) rfl (w10 hw) (w11 hw) (w14 hw) (w13 hw) (rm_rec_0 hw (o0 := o0) O W P0 P1 P2 P3 P4 G0) (W := 0) (by decide) (by decide) (k' := 0) rfl (n' := 0) rfl (by decide) (by decide) rfl pd_80 (argsL := []) rfl (rest := []) rfl rfl rfl d2_1 (q := 4) rfl ?_
  rintro T1 _ X2 rfl
  refine g_aloadN C X2 d2_4 (q := 5) rfl rfl rfl ?_
  refine g_nulN C X2 d2_5 (q := 8) rfl ?_
  refine g_aloadN C X2 d2_8 (q := 9) rfl rfl rfl ?_
  refine gW_ldcC C X2 Y (own_EL hw) (vs := [(.int (87 : Int32)), (.int (47 : Int32))]) (z := 2) (w59 hw) (own_SA hw) (List.mem_of_getElem? (i := 0) rfl) ⟨by decide, by decide +kernel⟩ (by decide) rfl d2_9 (q := 11) rfl (nn := 8) (by decide) (by decide) (k' := 2) rfl (n' := 12) rfl (by decide) (by decide) ?_
  intro b3 b11 kA12 T4 h5 vm6 C X7 Y8 E9 R10 f13 f14 f15 f16 sf17
  have O18 := O.ext E9
  have F19 : Str Z h5 b3 [(87 : Int32), (47 : Int32)] := ⟨b11, kA12, f13, f15, f14, f16, by decide, by decide⟩
  have f20 := (P5.ext E9)
  have f21 := (P6.ext E9)
  refine g_callV1 C X7 (y := (⟨"java/lang/String", "startsWith", "(Ljava/lang/String;)Z"⟩ : MethodName)) (z := (⟨"java/lang/String", "startsWith", "(Ljava/lang/String;)Z"⟩ : MethodName)) (a := o1) (by decide) (w62 hw) (w63 hw) (w65 hw) (w64 hw) (nf_sel (w65 hw)) f20 (w66 hw) (w33 hw) (rm_sw1_3 hw (o0 := o1) (o1 := b3) (i2 := i2) (i3 := i3) O18 W f20 f21 f13 F19 G1 Q2 Q3 Q4 Q5 Q6) (W := 0) (by decide) (by decide) (k' := 2) rfl (n' := 12) rfl (by decide) (by decide) rfl pd_132 (argsL := [(.ref b3)]) rfl (rest := []) rfl rfl rfl d2_11 (q := 14) rfl ?_
  rintro _ T22 _ X23 ⟨rfl, rfl⟩
  refine g_ifY C X23 d2_14 (by decide) (q := 19) (by decide) (by decide) ?_
  refine g_aloadN C X23 d2_19 (q := 20) rfl rfl rfl ?_
  refine g_aloadN C X23 d2_20 (q := 21) rfl rfl Q0 ?_
  have f24 := (P1.ext E9)
  have f25 := (P0.ext E9)
  refine g_putF C X23 (host := "") (Or.inl (w18 hw)) Via.refl f24 f25 (Or.inr ⟨(w19 hw), rfl, rfl⟩) (w5 hw) (ty := (.object "java/lang/String")) (by decide) (own_narR Q0) (own_fitR Q0) d2_21 (q := 24) rfl G0 ?_
  intro T26 h28 X27 W29
  have FW29 := Fld.same W29 f24
  have Y30 := Wx.wr Y8 W29 (Safe.exa (Cx.alike C) f25 (by decide) (by decide))
  have O31 := O18.wr W29 G0
  refine g_aloadN C X27 d2_24 (q := 25) rfl rfl rfl ?_
  refine g_aloadN C X27 d2_25 (q := 26) rfl rfl rfl ?_
  have f32 := ((P2.ext E9).other W29 (Or.inr (slot_ne (Or.inr (w21 hw)) (Or.inr (w19 hw)) (by decide) (t := (.object "java/lang/String")) (t' := (.object "java/lang/String")) (by decide) (by decide))))
  have f33 := (f25.wr W29)
  refine g_putF C X27 (host := "") (Or.inl (w20 hw)) Via.refl f32 f33 (Or.inr ⟨(w21 hw), rfl, rfl⟩) (w5 hw) (ty := (.object "java/lang/String")) (by decide) rfl rfl d2_26 (q := 29) rfl G0 ?_
  intro T34 h36 X35 W37
  have FW37 := Fld.same W37 f32
  have Y38 := Wx.wr Y30 W37 (Safe.exa (Cx.alike C) f33 (by decide) (by decide))
  have O39 := O31.wr W37 G0
  refine g_aloadN C X35 d2_29 (q := 30) rfl rfl rfl ?_
  refine g_lloadN C X35 d2_30 (q := 31) rfl rfl ?_
  have f40 := (((P3.ext E9).other W29 (Or.inr (slot_ne (Or.inr (w23 hw)) (Or.inr (w19 hw)) (by decide) (t := .long) (t' := (.object "java/lang/String")) (by decide) (by decide)))).other W37 (Or.inr (slot_ne (Or.inr (w23 hw)) (Or.inr (w21 hw)) (by decide) (t := .long) (t' := (.object "java/lang/String")) (by decide) (by decide))))
  have f41 := (f33.wr W37)
  refine g_putF C X35 (host := "") (Or.inl (w22 hw)) Via.refl f40 f41 (Or.inr ⟨(w23 hw), rfl, rfl⟩) (w5 hw) (ty := .long) (by decide) rfl rfl d2_31 (q := 34) rfl G0 ?_
  intro T42 h44 X43 W45
  have FW45 := Fld.same W45 f40
  have Y46 := Wx.wr Y38 W45 (Safe.exa (Cx.alike C) f41 (by decide) (by decide))
  have O47 := O39.wr W45 G0
  refine g_aloadN C X43 d2_34 (q := 35) rfl rfl rfl ?_
  refine g_aload C X43 d2_35 (q := 37) rfl rfl Q1 ?_
  have f48 := ((((P4.ext E9).other W29 (Or.inr (slot_ne (Or.inr (w25 hw)) (Or.inr (w19 hw)) (by decide) (t := (.object "java/lang/String")) (t' := (.object "java/lang/String")) (by decide) (by decide)))).other W37 (Or.inr (slot_ne (Or.inr (w25 hw)) (Or.inr (w21 hw)) (by decide) (t := (.object "java/lang/String")) (t' := (.object "java/lang/String")) (by decide) (by decide)))).other W45 (Or.inr (slot_ne (Or.inr (w25 hw)) (Or.inr (w23 hw)) (by decide) (t := (.object "java/lang/String")) (t' := .long) (by decide) (by decide))))
  have f49 := (f41.wr W45)
  refine g_putF C X43 (host := "") (Or.inl (w24 hw)) Via.refl f48 f49 (Or.inr ⟨(w25 hw), rfl, rfl⟩) (w5 hw) (ty := (.object "java/lang/String")) (by decide) (own_narR Q1) (own_fitR Q1) d2_37 (q := 40) rfl G0 ?_
  intro T50 h52 X51 W53
  have FW53 := Fld.same W53 f48
  have Y54 := Wx.wr Y46 W53 (Safe.exa (Cx.alike C) f49 (by decide) (by decide))
  have O55 := O47.wr W53 G0
  exact gW_retV C X51 Y54 (own_EL hw) d2_40 (by decide) (by decide) ⟨rfl, ((((((Keep.refl h0 [o0]).ext E9).wr W29 (Or.inl (List.mem_of_getElem? (i := 0) rfl))).wr W37 (Or.inl (List.mem_of_getElem? (i := 0) rfl))).wr W45 (Or.inl (List.mem_of_getElem? (i := 0) rfl))).wr W53 (Or.inl (List.mem_of_getElem? (i := 0) rfl))), (f49.wr W53), (((FW29.other W37 (Or.inr (slot_ne (Or.inr (w19 hw)) (Or.inr (w21 hw)) (by decide) (t := (.object "java/lang/String")) (t' := (.object "java/lang/String")) (by decide) (by decide)))).other W45 (Or.inr (slot_ne (Or.inr (w19 hw)) (Or.inr (w23 hw)) (by decide) (t := (.object "java/lang/String")) (t' := .long) (by decide) (by decide)))).other W53 (Or.inr (slot_ne (Or.inr (w19 hw)) (Or.inr (w25 hw)) (by decide) (t := (.object "java/lang/String")) (t' := (.object "java/lang/String")) (by decide) (by decide)))), ((FW37.other W45 (Or.inr (slot_ne (Or.inr (w21 hw)) (Or.inr (w23 hw)) (by decide) (t := (.object "java/lang/String")) (t' := .long) (by decide) (by decide)))).other W53 (Or.inr (slot_ne (Or.inr (w21 hw)) (Or.inr (w25 hw)) (by decide) (t := (.object "java/lang/String")) (t' := (.object "java/lang/String")) (by decide) (by decide)))), (FW45.other W53 (Or.inr (slot_ne (Or.inr (w23 hw)) (Or.inr (w25 hw)) (by decide) (t := .long) (t' := (.object "java/lang/String")) (by decide) (by decide)))), FW53⟩
set_option maxRecDepth 65536 in
set_option maxHeartbeats 40000000 in
theorem rm_cod_4 {l : Launch} {Z : State} {a0 : Array Value} (hw : ∀ d ∈ tables_1, d.before a0 Z = true) {cz : Int32} {fm : Value} {o0 : Addr} {i1 : Int32} {h0 : Heap} {n0 : Nat} (O : Old Z n0 h0) (W : Wd Z cz fm)  (P0 : Exa Z h0 o0 "java/lang/String") (P1 : Str Z h0 o0 [(87 : Int32), (47 : Int32), i1]) (G0 : n0 ≤ o0) (Q0 : 0 ≤ i1.toInt) (Q1 : i1.toInt ≤ 255) :
    Met1 l Z (⟨"java/lang/String", "coder", "()B"⟩ : MethodName) jdk_42_method_152_code 1 (some .byte) ({ frames := 0, cells := 0, slots := 0, locals := 0 } : Room) #[(.ref o0)] h0 n0 (fun v h => v = (.int (0 : Int32)) ∧ h0 = h) := by
  refine met_of (L := #[.val (.ref o0)]) (plainFor_of_name pn_32) (fun m => by first | (simp [entryFrame, mkF, argsToLocals, Value.category]; done) | rfl) ?_
  intro p e s m below meth c T C X
  change Cx p s m meth c Z "java/lang/String" jdk_42_method_152_code 1 (some .byte) "coder" at C
  refine g_getS C X (host := "") (Or.inl (w43 hw)) Via.refl (W.1.ext O.2) d14_0 (q := 3) rfl ?_
  intro T1 X2
  refine g_ifN C X2 d14_3 (q := 6) rfl (feq W.2.1).1 ?_
  refine g_aloadN C X2 d14_6 (q := 7) rfl rfl rfl ?_
  have F3 := P1
  obtain ⟨b4, kA5, f6, f7, f8, f9, -, -⟩ := F3
  have V10 : Arv Z h0 b4 kA5 .byte (3 : Int32) [(.int (87 : Int32)), (.int (47 : Int32)), (.int (i1.toInt8.toInt32))] (.int 0) := f9
  refine g_getF C X2 (host := "") (Or.inl (w55 hw)) Via.refl f8 d14_7 (q := 10) rfl ?_
  intro T11 X12
  refine g_goto C X12 d14_10 (by decide) (q := 14) (by decide) ?_
  exact g_retN C X12 (Or.inr (Or.inl rfl)) (z' := (0 : Int32)) (by decide) d14_14 (by decide) (by decide) ⟨_, rfl, rfl, rfl⟩
set_option maxRecDepth 65536 in
set_option maxHeartbeats 40000000 in
theorem rm_mis_3 {l : Launch} {Z : State} {a0 : Array Value} (hw : ∀ d ∈ tables_1, d.before a0 Z = true) {cz : Int32} {fm : Value} {o0 : Addr} {o1 : Addr} {kc2 : ClassId} {i3 : Int32} {kc4 : ClassId} {h0 : Heap} {n0 : Nat} (O : Old Z n0 h0) (W : Wd Z cz fm)  (P0 : Arv Z h0 o0 kc2 .byte (3 : Int32) [(.int (87 : Int32)), (.int (47 : Int32)), (.int i3)] (.int (0 : Int32))) (P1 : Arv Z h0 o1 kc4 .byte (2 : Int32) [(.int (87 : Int32)), (.int (47 : Int32))] (.int (0 : Int32))) :
    Met1 l Z (⟨"jdk/internal/util/ArraysSupport", "mismatch", "([BI[BII)I"⟩ : MethodName) jdk_48_method_14_code 8 (some .int) ({ frames := 0, cells := 0, slots := 0, locals := 0 } : Room) #[(.ref o0), (.int (0 : Int32)), (.ref o1), (.int (0 : Int32)), (.int (2 : Int32))] h0 n0 (fun v h => v = (.int (-1 : Int32)) ∧ h0 = h) := by
  refine met_of (L := #[.val (.ref o0), .val (.int (0 : Int32)), .val (.ref o1), .val (.int (0 : Int32)), .val (.int (2 : Int32)), .unset, .unset, .unset]) (plainFor_of_name pn_191) (fun m => by first | (simp [entryFrame, mkF, argsToLocals, Value.category]; done) | rfl) ?_
  intro p e s m below meth c T C X
  change Cx p s m meth c Z "jdk/internal/util/ArraysSupport" jdk_48_method_14_code 8 (some .int) "mismatch" at C
  refine g_iconst C X d15_0 (q := 1) rfl (z := (0 : Int32)) rfl ?_
  refine g_istore C X d15_1 (q := 3) rfl (L' := #[.val (.ref o0), .val (.int (0 : Int32)), .val (.ref o1), .val (.int (0 : Int32)), .val (.int (2 : Int32)), .val (.int (0 : Int32)), .unset, .unset]) rfl ?_
  refine g_iload C X d15_3 (q := 5) rfl rfl ?_
  refine g_bipush C X d15_5 (q := 7) rfl (z := (7 : Int32)) rfl ?_
  refine g_icY C X d15_7 (by decide) (q := 70) (by decide) (by decide) ?_
  refine g_iload C X d15_70 (q := 72) rfl rfl ?_
  refine g_iload C X d15_72 (q := 74) rfl rfl ?_
  refine g_icN C X d15_74 (q := 77) rfl (by decide) ?_
  refine g_aloadN C X d15_77 (q := 78) rfl rfl rfl ?_
  refine g_iloadN C X d15_78 (q := 79) rfl rfl ?_
  refine g_iload C X d15_79 (q := 81) rfl rfl ?_
  refine g_iadd C X d15_81 (q := 82) rfl (z := (0 : Int32)) (by decide) ?_
  refine g_baload C X P0 (by decide) (w := (.int (87 : Int32))) rfl d15_82 (q := 83) rfl ?_
  refine g_aloadN C X d15_83 (q := 84) rfl rfl rfl ?_
  refine g_iloadN C X d15_84 (q := 85) rfl rfl ?_
  refine g_iload C X d15_85 (q := 87) rfl rfl ?_
  refine g_iadd C X d15_87 (q := 88) rfl (z := (0 : Int32)) (by decide) ?_
  refine g_baload C X P1 (by decide) (w := (.int (87 : Int32))) rfl d15_88 (q := 89) rfl ?_
  refine g_icY C X d15_89 (by decide) (q := 95) (by decide) (by decide) ?_
  refine g_iinc C X d15_95 (q := 98) rfl rfl (z := (1 : Int32)) (by decide) (L' := #[.val (.ref o0), .val (.int (0 : Int32)), .val (.ref o1), .val (.int (0 : Int32)), .val (.int (2 : Int32)), .val (.int (1 : Int32)), .unset, .unset]) rfl ?_
  refine g_goto C X d15_98 (by decide) (q := 70) (by decide) ?_
  refine g_iload C X d15_70 (q := 72) rfl rfl ?_
  refine g_iload C X d15_72 (q := 74) rfl rfl ?_
  refine g_icN C X d15_74 (q := 77) rfl (by decide) ?_
  refine g_aloadN C X d15_77 (q := 78) rfl rfl rfl ?_
  refine g_iloadN C X d15_78 (q := 79) rfl rfl ?_
  refine g_iload C X d15_79 (q := 81) rfl rfl ?_
  refine g_iadd C X d15_81 (q := 82) rfl (z := (1 : Int32)) (by decide) ?_
  refine g_baload C X P0 (by decide) (w := (.int (47 : Int32))) rfl d15_82 (q := 83) rfl ?_
  refine g_aloadN C X d15_83 (q := 84) rfl rfl rfl ?_
  refine g_iloadN C X d15_84 (q := 85) rfl rfl ?_
  refine g_iload C X d15_85 (q := 87) rfl rfl ?_
  refine g_iadd C X d15_87 (q := 88) rfl (z := (1 : Int32)) (by decide) ?_
  refine g_baload C X P1 (by decide) (w := (.int (47 : Int32))) rfl d15_88 (q := 89) rfl ?_
  refine g_icY C X d15_89 (by decide) (q := 95) (by decide) (by decide) ?_
  refine g_iinc C X d15_95 (q := 98) rfl rfl (z := (2 : Int32)) (by decide) (L' := #[.val (.ref o0), .val (.int (0 : Int32)), .val (.ref o1), .val (.int (0 : Int32)), .val (.int (2 : Int32)), .val (.int (2 : Int32)), .unset, .unset]) rfl ?_
  refine g_goto C X d15_98 (by decide) (q := 70) (by decide) ?_
  refine g_iload C X d15_70 (q := 72) rfl rfl ?_
  refine g_iload C X d15_72 (q := 74) rfl rfl ?_
  refine g_icY C X d15_74 (by decide) (q := 101) (by decide) (by decide) ?_
  refine g_iconst C X d15_101 (q := 102) rfl (z := (-1 : Int32)) rfl ?_
  exact g_retI C X d15_102 (by decide) (by decide) ⟨_, rfl, rfl, rfl⟩
set_option maxRecDepth 65536 in
set_option maxHeartbeats 40000000 in
theorem rm_sw2_4 {l : Launch} {Z : State} {a0 : Array Value} (hw : ∀ d ∈ tables_1, d.before a0 Z = true) {cz : Int32} {fm : Value} {o0 : Addr} {o1 : Addr} {i2 : Int32} {h0 : Heap} {n0 : Nat} (O : Old Z n0 h0) (W : Wd Z cz fm)  (P0 : Exa Z h0 o0 "java/lang/String") (P1 : Str Z h0 o0 [(87 : Int32), (47 : Int32), i2]) (P2 : Exa Z h0 o1 "java/lang/String") (P3 : Str Z h0 o1 [(87 : Int32), (47 : Int32)]) (G0 : n0 ≤ o0) (Q0 : 0 ≤ i2.toInt) (Q1 : i2.toInt ≤ 255) :
    Met1 l Z (⟨"java/lang/String", "startsWith", "(Ljava/lang/String;I)Z"⟩ : MethodName) jdk_42_method_75_code 8 (some .boolean) ({ frames := 2, cells := 0, slots := 0, locals := 27 } : Room) #[(.ref o0), (.ref o1), (.int (0 : Int32))] h0 n0 (fun v h => v = (.int (1 : Int32)) ∧ h0 = h) := by
  refine met_of (L := #[.val (.ref o0), .val (.ref o1), .val (.int (0 : Int32)), .unset, .unset, .unset, .unset, .unset]) (plainFor_of_name pn_32) (fun m => by first | (simp [entryFrame, mkF, argsToLocals, Value.category]; done) | rfl) ?_
  intro p e s m below meth c T C X
  change Cx p s m meth c Z "java/lang/String" jdk_42_method_75_code 8 (some .boolean) "startsWith" at C
  refine g_iloadN C X d12_0 (q := 1) rfl rfl ?_
  refine g_ifN C X d12_1 (q := 4) rfl (by decide) ?_
  refine g_iloadN C X d12_4 (q := 5) rfl rfl ?_
  refine g_aloadN C X d12_5 (q := 6) rfl rfl rfl ?_
  refine g_strLen C X (own_wordsLen hw) (w32 hw) (w72 hw) (w73 hw) (w75 hw) (w74 hw) P1 (W.1.ext O.2) W.2.1 (W := 1) (by decide) (by decide) (by decide) (by decide) rfl rfl d12_6 (q := 9) rfl ?_
  intro T1 X2
  change Goes p e below _ (T1.setTop (mkF m 9 #[.val (.ref o0), .val (.ref o1), .val (.int (0 : Int32)), .unset, .unset, .unset, .unset, .unset] ((.int (3 : Int32)) :: [(.int (0 : Int32))])))
  refine g_aloadN C X2 d12_9 (q := 10) rfl rfl rfl ?_
  refine g_strLen C X2 (own_wordsLen hw) (w32 hw) (w72 hw) (w73 hw) (w75 hw) (w74 hw) P3 (W.1.ext O.2) W.2.1 (W := 2) (by decide) (by decide) (by decide) (by decide) rfl rfl d12_10 (q := 13) rfl ?_
  intro T3 X4
  change Goes p e below _ (T3.setTop (mkF m 13 #[.val (.ref o0), .val (.ref o1), .val (.int (0 : Int32)), .unset, .unset, .unset, .unset, .unset] ((.int (2 : Int32)) :: [(.int (3 : Int32)), (.int (0 : Int32))])))
  refine g_isub C X4 d12_13 (q := 14) rfl (z := (1 : Int32)) (by decide) ?_
  refine g_icY C X4 d12_14 (by decide) (q := 19) (by decide) (by decide) ?_
  refine g_aloadN C X4 d12_19 (q := 20) rfl rfl rfl ?_
  have F5 := P1
  obtain ⟨b6, kA7, f8, f9, f10, f11, -, -⟩ := F5
  have V12 : Arv Z h0 b6 kA7 .byte (3 : Int32) [(.int (87 : Int32)), (.int (47 : Int32)), (.int (i2.toInt8.toInt32))] (.int 0) := f11
  refine g_getF C X4 (host := "") (Or.inl (w57 hw)) Via.refl f9 d12_20 (q := 23) rfl ?_
  intro T13 X14
  refine g_astoreN C X14 d12_23 (q := 24) rfl rfl (L' := #[.val (.ref o0), .val (.ref o1), .val (.int (0 : Int32)), .val (.ref b6), .unset, .unset, .unset, .unset]) rfl ?_
  refine g_aloadN C X14 d12_24 (q := 25) rfl rfl rfl ?_
  have F15 := P3
  obtain ⟨b16, kA17, f18, f19, f20, f21, -, -⟩ := F15
  have V22 : Arv Z h0 b16 kA17 .byte (2 : Int32) [(.int (87 : Int32)), (.int (47 : Int32))] (.int 0) := f21
  refine g_getF C X14 (host := "") (Or.inl (w57 hw)) Via.refl f19 d12_25 (q := 28) rfl ?_
  intro T23 X24
  refine g_astore C X24 d12_28 (q := 30) rfl rfl (L' := #[.val (.ref o0), .val (.ref o1), .val (.int (0 : Int32)), .val (.ref b6), .val (.ref b16), .unset, .unset, .unset]) rfl ?_
  refine g_iconst C X24 d12_30 (q := 31) rfl (z := (0 : Int32)) rfl ?_
  refine g_istore C X24 d12_31 (q := 33) rfl (L' := #[.val (.ref o0), .val (.ref o1), .val (.int (0 : Int32)), .val (.ref b6), .val (.ref b16), .val (.int (0 : Int32)), .unset, .unset]) rfl ?_
  refine g_aload C X24 d12_33 (q := 35) rfl rfl rfl ?_
  refine g_alen C X24 V22 d12_35 (q := 36) rfl ?_
  refine g_istore C X24 d12_36 (q := 38) rfl (L' := #[.val (.ref o0), .val (.ref o1), .val (.int (0 : Int32)), .val (.ref b6), .val (.ref b16), .val (.int (0 : Int32)), .val (.int (2 : Int32)), .unset]) rfl ?_
  refine g_aloadN C X24 d12_38 (q := 39) rfl rfl rfl ?_
  refine g_callV1 C X24 (y := (⟨"java/lang/String", "coder", "()B"⟩ : MethodName)) (z := (⟨"java/lang/String", "coder", "()B"⟩ : MethodName)) (a := o0) (by decide) (w77 hw) (w78 hw) (w80 hw) (w79 hw) (nf_sel (w80 hw)) P0 (w81 hw) (w33 hw) (rm_cod_4 hw (o0 := o0) (i1 := i2) O W P0 P1 G0 Q0 Q1) (W := 0) (by decide) (by decide) (k' := 0) rfl (n' := 0) rfl (by decide) (by decide) rfl pd_153 (argsL := []) rfl (rest := []) rfl rfl rfl d12_39 (q := 42) rfl ?_
  rintro _ T25 _ X26 ⟨rfl, rfl⟩
  refine g_istore C X26 d12_42 (q := 44) rfl (L' := #[.val (.ref o0), .val (.ref o1), .val (.int (0 : Int32)), .val (.ref b6), .val (.ref b16), .val (.int (0 : Int32)), .val (.int (2 : Int32)), .val (.int (0 : Int32))]) rfl ?_
  refine g_iload C X26 d12_44 (q := 46) rfl rfl ?_
  refine g_aloadN C X26 d12_46 (q := 47) rfl rfl rfl ?_
  refine g_callV1 C X26 (y := (⟨"java/lang/String", "coder", "()B"⟩ : MethodName)) (z := (⟨"java/lang/String", "coder", "()B"⟩ : MethodName)) (a := o1) (by decide) (w77 hw) (w78 hw) (w80 hw) (w79 hw) (nf_sel (w80 hw)) P2 (w81 hw) (w33 hw) (rm_cod_1 hw (o0 := o1) O W P2 P3) (W := 1) (by decide) (by decide) (k' := 0) rfl (n' := 0) rfl (by decide) (by decide) rfl pd_153 (argsL := []) rfl (rest := [(.int (0 : Int32))]) rfl rfl rfl d12_47 (q := 50) rfl ?_
  rintro _ T27 _ X28 ⟨rfl, rfl⟩
  refine g_icN C X28 d12_50 (q := 53) rfl (by decide) ?_
  refine g_iload C X28 d12_53 (q := 55) rfl rfl ?_
  refine g_iconst C X28 d12_55 (q := 56) rfl (z := (1 : Int32)) rfl ?_
  refine g_icY C X28 d12_56 (by decide) (q := 63) (by decide) (by decide) ?_
  refine g_aloadN C X28 d12_63 (q := 64) rfl rfl rfl ?_
  refine g_iloadN C X28 d12_64 (q := 65) rfl rfl ?_
  refine g_aload C X28 d12_65 (q := 67) rfl rfl rfl ?_
  refine g_iconst C X28 d12_67 (q := 68) rfl (z := (0 : Int32)) rfl ?_
  refine g_iload C X28 d12_68 (q := 70) rfl rfl ?_
  refine g_callS1 C X28 (y := (⟨"jdk/internal/util/ArraysSupport", "mismatch", "([BI[BII)I"⟩ : MethodName)) (by decide) (w82 hw) (w83 hw) (w85 hw) (w84 hw) (rm_mis_3 hw (o0 := b6) (o1 := b16) (kc2 := kA7) (i3 := (i2.toInt8.toInt32)) (kc4 := kA17) O W V12 V22) (W := 0) (by decide) (by decide) (k' := 0) rfl (n' := 0) rfl (by decide) (by decide) rfl pd_192 (argsL := [(.ref b6), (.int (0 : Int32)), (.ref b16), (.int (0 : Int32)), (.int (2 : Int32))]) rfl (rest := []) rfl rfl rfl d12_70 (q := 73) rfl ?_
  rintro _ T29 _ X30 ⟨rfl, rfl⟩
  refine g_ifN C X30 d12_73 (q := 76) rfl (by decide) ?_
  refine g_iconst C X30 d12_76 (q := 77) rfl (z := (1 : Int32)) rfl ?_
  refine g_goto C X30 d12_77 (by decide) (q := 81) (by decide) ?_
  exact g_retN C X30 (Or.inl rfl) (z' := (1 : Int32)) (by decide) d12_81 (by decide) (by decide) ⟨_, rfl, rfl, rfl⟩
set_option maxRecDepth 65536 in
set_option maxHeartbeats 40000000 in
theorem rm_sw1_4 {l : Launch} {Z : State} {a0 : Array Value} (hw : ∀ d ∈ tables_1, d.before a0 Z = true) {cz : Int32} {fm : Value} {o0 : Addr} {o1 : Addr} {i2 : Int32} {h0 : Heap} {n0 : Nat} (O : Old Z n0 h0) (W : Wd Z cz fm)  (P0 : Exa Z h0 o0 "java/lang/String") (P1 : Str Z h0 o0 [(87 : Int32), (47 : Int32), i2]) (P2 : Exa Z h0 o1 "java/lang/String") (P3 : Str Z h0 o1 [(87 : Int32), (47 : Int32)]) (G0 : n0 ≤ o0) (Q0 : 0 ≤ i2.toInt) (Q1 : i2.toInt ≤ 255) :
    Met1 l Z (⟨"java/lang/String", "startsWith", "(Ljava/lang/String;)Z"⟩ : MethodName) jdk_42_method_76_code 2 (some .boolean) ({ frames := 3, cells := 0, slots := 0, locals := 46 } : Room) #[(.ref o0), (.ref o1)] h0 n0 (fun v h => v = (.int (1 : Int32)) ∧ h0 = h) := by
  refine met_of (L := #[.val (.ref o0), .val (.ref o1)]) (plainFor_of_name pn_32) (fun m => by first | (simp [entryFrame, mkF, argsToLocals, Value.category]; done) | rfl) ?_
  intro p e s m below meth c T C X
  change Cx p s m meth c Z "java/lang/String" jdk_42_method_76_code 2 (some .boolean) "startsWith" at C
  refine g_aloadN C X d11_0 (q := 1) rfl rfl rfl ?_
  refine g_aloadN C X d11_1 (q := 2) rfl rfl rfl ?_
  refine g_iconst C X d11_2 (q := 3) rfl (z := (0 : Int32)) rfl ?_
  refine g_callV1 C X (y := (⟨"java/lang/String", "startsWith", "(Ljava/lang/String;I)Z"⟩ : MethodName)) (z := (⟨"java/lang/String", "startsWith", "(Ljava/lang/String;I)Z"⟩ : MethodName)) (a := o0) (by decide) (w67 hw) (w68 hw) (w70 hw) (w69 hw) (nf_sel (w70 hw)) P0 (w71 hw) (w33 hw) (rm_sw2_4 hw (o0 := o0) (o1 := o1) (i2 := i2) O W P0 P1 P2 P3 G0 Q0 Q1) (W := 0) (by decide) (by decide) (k' := 0) rfl (n' := 0) rfl (by decide) (by decide) rfl pd_130 (argsL := [(.ref o1), (.int (0 : Int32))]) rfl (rest := []) rfl rfl rfl d11_3 (q := 6) rfl ?_
  rintro _ T1 _ X2 ⟨rfl, rfl⟩
  exact g_retN C X2 (Or.inl rfl) (z' := (1 : Int32)) (by decide) d11_6 (by decide) (by decide) ⟨_, rfl, rfl, rfl⟩
set_option maxRecDepth 65536 in
set_option maxHeartbeats 40000000 in
theorem rm_init_5 {l : Launch} {Z : State} {a0 : Array Value} (hw : ∀ d ∈ tables_1, d.before a0 Z = true) {cz : Int32} {fm : Value} {o0 : Addr} {o1 : Addr} {i2 : Int32} {av3 : Value} {j4 : Int64} {av5 : Value} {h0 : Heap} {n0 : Nat} (O : Old Z n0 h0) (W : Wd Z cz fm)  (P0 : Exa Z h0 o0 "com/example/jetway/jetway/Fetcher$Validators") (P1 : Fld Z h0 o0 "com/example/jetway/jetway/Fetcher$Validators" "lastModified" "Ljava/lang/String;" .null) (P2 : Fld Z h0 o0 "com/example/jetway/jetway/Fetcher$Validators" "entityTag" "Ljava/lang/String;" .null) (P3 : Fld Z h0 o0 "com/example/jetway/jetway/Fetcher$Validators" "length" "J" (.long (0 : Int64))) (P4 : Fld Z h0 o0 "com/example/jetway/jetway/Fetcher$Validators" "versionId" "Ljava/lang/String;" .null) (P5 : Exa Z h0 o1 "java/lang/String") (P6 : Str Z h0 o1 [(87 : Int32), (47 : Int32), i2]) (G0 : n0 ≤ o0) (G1 : n0 ≤ o1) (N0_1 : o0 ≠ o1) (Q0 : av3.isRef = true) (Q1 : av5.isRef = true) (Q2 : 0 ≤ i2.toInt) (Q3 : i2.toInt ≤ 255) :
    MetW0 l Z consts_1 (⟨"com/example/jetway/jetway/Fetcher$Validators", "<init>", "(Ljava/lang/String;Ljava/lang/String;JLjava/lang/String;)V"⟩ : MethodName) prog_37_method_1_code 6 none ({ frames := 4, cells := 2, slots := 12, locals := 59 } : Room) #[(.ref o0), av3, (.ref o1), (.long j4), av5] h0 n0 (fun h => Keep h0 h [o0] ∧ Exa Z h o0 "com/example/jetway/jetway/Fetcher$Validators" ∧ Fld Z h o0 "com/example/jetway/jetway/Fetcher$Validators" "lastModified" "Ljava/lang/String;" av3 ∧ Fld Z h o0 "com/example/jetway/jetway/Fetcher$Validators" "entityTag" "Ljava/lang/String;" .null ∧ Fld Z h o0 "com/example/jetway/jetway/Fetcher$Validators" "length" "J" (.long j4) ∧ Fld Z h o0 "com/example/jetway/jetway/Fetcher$Validators" "versionId" "Ljava/lang/String;" av5) := by
  refine metW_of (L := #[.val (.ref o0), .val av3, .val (.ref o1), .val (.long j4), .second, .val av5]) (plainFor_of_name pn_96) (fun m => by (cases av3 <;> first | exact absurd Q0 Bool.false_ne_true | skip) <;> (cases av5 <;> first | exact absurd Q1 Bool.false_ne_true | skip) <;> first | (simp [entryFrame, mkF, argsToLocals, Value.category]; done) | rfl) ?_
  intro p e s m below meth c T vm C X Y
  change Cx p (s.setVm vm) m meth c Z "com/example/jetway/jetway/Fetcher$Validators" prog_37_method_1_code 6 none "<init>" at C
  refine g_aloadN C X d2_0 (q := 1) rfl rfl rfl ?_
  refine g_callI0 C X (y := (⟨"java/lang/Record", "<init>", "()V"⟩ : MethodName)) (a := o0) (by decide) rfl (w10 hw) (w11 hw) (w14 hw) (w13 hw) (rm_rec_0 hw (o0 := o0) O W P0 P1 P2 P3 P4 G0) (W := 0) (by decide) (by decide) (k' := 0) rfl (n' := 0) rfl (by decide) (by decide) rfl pd_80 (argsL := []) rfl (rest := []) rfl rfl rfl d2_1 (q := 4) rfl ?_
  rintro T1 _ X2 rfl
  refine g_aloadN C X2 d2_4 (q := 5) rfl rfl rfl ?_
  refine g_nulN C X2 d2_5 (q := 8) rfl ?_
  refine g_aloadN C X2 d2_8 (q := 9) rfl rfl rfl ?_
  refine gW_ldcC C X2 Y (own_EL hw) (vs := [(.int (87 : Int32)), (.int (47 : Int32))]) (z := 2) (w59 hw) (own_SA hw) (List.mem_of_getElem? (i := 0) rfl) ⟨by decide, by decide +kernel⟩ (by decide) rfl d2_9 (q := 11) rfl (nn := 8) (by decide) (by decide) (k' := 2) rfl (n' := 12) rfl (by decide) (by decide) ?_
  intro b3 b11 kA12 T4 h5 vm6 C X7 Y8 E9 R10 f13 f14 f15 f16 sf17
  have O18 := O.ext E9
  have F19 : Str Z h5 b3 [(87 : Int32), (47 : Int32)] := ⟨b11, kA12, f13, f15, f14, f16, by decide, by decide⟩
  have f20 := (P5.ext E9)
  have f21 := (P6.ext E9)
  refine g_callV1 C X7 (y := (⟨"java/lang/String", "startsWith", "(Ljava/lang/String;)Z"⟩ : MethodName)) (z := (⟨"java/lang/String", "startsWith", "(Ljava/lang/String;)Z"⟩ : MethodName)) (a := o1) (by decide) (w62 hw) (w63 hw) (w65 hw) (w64 hw) (nf_sel (w65 hw)) f20 (w66 hw) (w33 hw) (rm_sw1_4 hw (o0 := o1) (o1 := b3) (i2 := i2) O18 W f20 f21 f13 F19 G1 Q2 Q3) (W := 0) (by decide) (by decide) (k' := 2) rfl (n' := 12) rfl (by decide) (by decide) rfl pd_132 (argsL := [(.ref b3)]) rfl (rest := []) rfl rfl rfl d2_11 (q := 14) rfl ?_
  rintro _ T22 _ X23 ⟨rfl, rfl⟩
  refine g_ifN C X23 d2_14 (q := 17) rfl (by decide) ?_
  refine g_aconstNull C X23 d2_17 (q := 18) rfl ?_
  refine g_astoreN C X23 d2_18 (q := 19) rfl rfl (L' := #[.val (.ref o0), .val av3, .val .null, .val (.long j4), .second, .val av5]) rfl ?_
  refine g_aloadN C X23 d2_19 (q := 20) rfl rfl rfl ?_
  refine g_aloadN C X23 d2_20 (q := 21) rfl rfl Q0 ?_
  have f24 := (P1.ext E9)
  have f25 := (P0.ext E9)
  refine g_putF C X23 (host := "") (Or.inl (w18 hw)) Via.refl f24 f25 (Or.inr ⟨(w19 hw), rfl, rfl⟩) (w5 hw) (ty := (.object "java/lang/String")) (by decide) (own_narR Q0) (own_fitR Q0) d2_21 (q := 24) rfl G0 ?_
  intro T26 h28 X27 W29
  have FW29 := Fld.same W29 f24
  have Y30 := Wx.wr Y8 W29 (Safe.exa (Cx.alike C) f25 (by decide) (by decide))
  have O31 := O18.wr W29 G0
  refine g_aloadN C X27 d2_24 (q := 25) rfl rfl rfl ?_
  refine g_aloadN C X27 d2_25 (q := 26) rfl rfl rfl ?_
  have f32 := ((P2.ext E9).other W29 (Or.inr (slot_ne (Or.inr (w21 hw)) (Or.inr (w19 hw)) (by decide) (t := (.object "java/lang/String")) (t' := (.object "java/lang/String")) (by decide) (by decide))))
  have f33 := (f25.wr W29)
  refine g_putF C X27 (host := "") (Or.inl (w20 hw)) Via.refl f32 f33 (Or.inr ⟨(w21 hw), rfl, rfl⟩) (w5 hw) (ty := (.object "java/lang/String")) (by decide) rfl rfl d2_26 (q := 29) rfl G0 ?_
  intro T34 h36 X35 W37
  have FW37 := Fld.same W37 f32
  have Y38 := Wx.wr Y30 W37 (Safe.exa (Cx.alike C) f33 (by decide) (by decide))
  have O39 := O31.wr W37 G0
  refine g_aloadN C X35 d2_29 (q := 30) rfl rfl rfl ?_
  refine g_lloadN C X35 d2_30 (q := 31) rfl rfl ?_
  have f40 := (((P3.ext E9).other W29 (Or.inr (slot_ne (Or.inr (w23 hw)) (Or.inr (w19 hw)) (by decide) (t := .long) (t' := (.object "java/lang/String")) (by decide) (by decide)))).other W37 (Or.inr (slot_ne (Or.inr (w23 hw)) (Or.inr (w21 hw)) (by decide) (t := .long) (t' := (.object "java/lang/String")) (by decide) (by decide))))
  have f41 := (f33.wr W37)
  refine g_putF C X35 (host := "") (Or.inl (w22 hw)) Via.refl f40 f41 (Or.inr ⟨(w23 hw), rfl, rfl⟩) (w5 hw) (ty := .long) (by decide) rfl rfl d2_31 (q := 34) rfl G0 ?_
  intro T42 h44 X43 W45
  have FW45 := Fld.same W45 f40
  have Y46 := Wx.wr Y38 W45 (Safe.exa (Cx.alike C) f41 (by decide) (by decide))
  have O47 := O39.wr W45 G0
  refine g_aloadN C X43 d2_34 (q := 35) rfl rfl rfl ?_
  refine g_aload C X43 d2_35 (q := 37) rfl rfl Q1 ?_
  have f48 := ((((P4.ext E9).other W29 (Or.inr (slot_ne (Or.inr (w25 hw)) (Or.inr (w19 hw)) (by decide) (t := (.object "java/lang/String")) (t' := (.object "java/lang/String")) (by decide) (by decide)))).other W37 (Or.inr (slot_ne (Or.inr (w25 hw)) (Or.inr (w21 hw)) (by decide) (t := (.object "java/lang/String")) (t' := (.object "java/lang/String")) (by decide) (by decide)))).other W45 (Or.inr (slot_ne (Or.inr (w25 hw)) (Or.inr (w23 hw)) (by decide) (t := (.object "java/lang/String")) (t' := .long) (by decide) (by decide))))
  have f49 := (f41.wr W45)
  refine g_putF C X43 (host := "") (Or.inl (w24 hw)) Via.refl f48 f49 (Or.inr ⟨(w25 hw), rfl, rfl⟩) (w5 hw) (ty := (.object "java/lang/String")) (by decide) (own_narR Q1) (own_fitR Q1) d2_37 (q := 40) rfl G0 ?_
  intro T50 h52 X51 W53
  have FW53 := Fld.same W53 f48
  have Y54 := Wx.wr Y46 W53 (Safe.exa (Cx.alike C) f49 (by decide) (by decide))
  have O55 := O47.wr W53 G0
  exact gW_retV C X51 Y54 (own_EL hw) d2_40 (by decide) (by decide) ⟨rfl, ((((((Keep.refl h0 [o0]).ext E9).wr W29 (Or.inl (List.mem_of_getElem? (i := 0) rfl))).wr W37 (Or.inl (List.mem_of_getElem? (i := 0) rfl))).wr W45 (Or.inl (List.mem_of_getElem? (i := 0) rfl))).wr W53 (Or.inl (List.mem_of_getElem? (i := 0) rfl))), (f49.wr W53), (((FW29.other W37 (Or.inr (slot_ne (Or.inr (w19 hw)) (Or.inr (w21 hw)) (by decide) (t := (.object "java/lang/String")) (t' := (.object "java/lang/String")) (by decide) (by decide)))).other W45 (Or.inr (slot_ne (Or.inr (w19 hw)) (Or.inr (w23 hw)) (by decide) (t := (.object "java/lang/String")) (t' := .long) (by decide) (by decide)))).other W53 (Or.inr (slot_ne (Or.inr (w19 hw)) (Or.inr (w25 hw)) (by decide) (t := (.object "java/lang/String")) (t' := (.object "java/lang/String")) (by decide) (by decide)))), ((FW37.other W45 (Or.inr (slot_ne (Or.inr (w21 hw)) (Or.inr (w23 hw)) (by decide) (t := (.object "java/lang/String")) (t' := .long) (by decide) (by decide)))).other W53 (Or.inr (slot_ne (Or.inr (w21 hw)) (Or.inr (w25 hw)) (by decide) (t := (.object "java/lang/String")) (t' := (.object "java/lang/String")) (by decide) (by decide)))), (FW45.other W53 (Or.inr (slot_ne (Or.inr (w23 hw)) (Or.inr (w25 hw)) (by decide) (t := .long) (t' := (.object "java/lang/String")) (by decide) (by decide)))), FW53⟩
set_option maxRecDepth 65536 in
set_option maxHeartbeats 40000000 in
theorem rm_cod_5 {l : Launch} {Z : State} {a0 : Array Value} (hw : ∀ d ∈ tables_1, d.before a0 Z = true) {cz : Int32} {fm : Value} {o0 : Addr} {i1 : Int32} {i2 : Int32} {h0 : Heap} {n0 : Nat} (O : Old Z n0 h0) (W : Wd Z cz fm)  (P0 : Exa Z h0 o0 "java/lang/String") (P1 : Str Z h0 o0 [(87 : Int32), i1, i2]) (G0 : n0 ≤ o0) (Q0 : 0 ≤ i1.toInt) (Q1 : i1.toInt ≤ 255) (Q2 : ¬ i1 = (47 : Int32)) (Q3 : 0 ≤ i2.toInt) (Q4 : i2.toInt ≤ 255) :
    Met1 l Z (⟨"java/lang/String", "coder", "()B"⟩ : MethodName) jdk_42_method_152_code 1 (some .byte) ({ frames := 0, cells := 0, slots := 0, locals := 0 } : Room) #[(.ref o0)] h0 n0 (fun v h => v = (.int (0 : Int32)) ∧ h0 = h) := by
  refine met_of (L := #[.val (.ref o0)]) (plainFor_of_name pn_32) (fun m => by first | (simp [entryFrame, mkF, argsToLocals, Value.category]; done) | rfl) ?_
  intro p e s m below meth c T C X
  change Cx p s m meth c Z "java/lang/String" jdk_42_method_152_code 1 (some .byte) "coder" at C
  refine g_getS C X (host := "") (Or.inl (w43 hw)) Via.refl (W.1.ext O.2) d14_0 (q := 3) rfl ?_
  intro T1 X2
  refine g_ifN C X2 d14_3 (q := 6) rfl (feq W.2.1).1 ?_
  refine g_aloadN C X2 d14_6 (q := 7) rfl rfl rfl ?_
  have F3 := P1
  obtain ⟨b4, kA5, f6, f7, f8, f9, -, -⟩ := F3
  have V10 : Arv Z h0 b4 kA5 .byte (3 : Int32) [(.int (87 : Int32)), (.int (i1.toInt8.toInt32)), (.int (i2.toInt8.toInt32))] (.int 0) := f9
  refine g_getF C X2 (host := "") (Or.inl (w55 hw)) Via.refl f8 d14_7 (q := 10) rfl ?_
  intro T11 X12
  refine g_goto C X12 d14_10 (by decide) (q := 14) (by decide) ?_
  exact g_retN C X12 (Or.inr (Or.inl rfl)) (z' := (0 : Int32)) (by decide) d14_14 (by decide) (by decide) ⟨_, rfl, rfl, rfl⟩
set_option maxRecDepth 65536 in
set_option maxHeartbeats 40000000 in
theorem rm_mis_4 {l : Launch} {Z : State} {a0 : Array Value} (hw : ∀ d ∈ tables_1, d.before a0 Z = true) {cz : Int32} {fm : Value} {o0 : Addr} {o1 : Addr} {kc2 : ClassId} {i3 : Int32} {i4 : Int32} {kc5 : ClassId} {h0 : Heap} {n0 : Nat} (O : Old Z n0 h0) (W : Wd Z cz fm)  (P0 : Arv Z h0 o0 kc2 .byte (3 : Int32) [(.int (87 : Int32)), (.int i3), (.int i4)] (.int (0 : Int32))) (P1 : Arv Z h0 o1 kc5 .byte (2 : Int32) [(.int (87 : Int32)), (.int (47 : Int32))] (.int (0 : Int32))) (Q0 : ¬ i3 = (47 : Int32)) :
    Met1 l Z (⟨"jdk/internal/util/ArraysSupport", "mismatch", "([BI[BII)I"⟩ : MethodName) jdk_48_method_14_code 8 (some .int) ({ frames := 0, cells := 0, slots := 0, locals := 0 } : Room) #[(.ref o0), (.int (0 : Int32)), (.ref o1), (.int (0 : Int32)), (.int (2 : Int32))] h0 n0 (fun v h => v = (.int (1 : Int32)) ∧ h0 = h) := by
  refine met_of (L := #[.val (.ref o0), .val (.int (0 : Int32)), .val (.ref o1), .val (.int (0 : Int32)), .val (.int (2 : Int32)), .unset, .unset, .unset]) (plainFor_of_name pn_191) (fun m => by first | (simp [entryFrame, mkF, argsToLocals, Value.category]; done) | rfl) ?_
  intro p e s m below meth c T C X
  change Cx p s m meth c Z "jdk/internal/util/ArraysSupport" jdk_48_method_14_code 8 (some .int) "mismatch" at C
  refine g_iconst C X d15_0 (q := 1) rfl (z := (0 : Int32)) rfl ?_
  refine g_istore C X d15_1 (q := 3) rfl (L' := #[.val (.ref o0), .val (.int (0 : Int32)), .val (.ref o1), .val (.int (0 : Int32)), .val (.int (2 : Int32)), .val (.int (0 : Int32)), .unset, .unset]) rfl ?_
  refine g_iload C X d15_3 (q := 5) rfl rfl ?_
  refine g_bipush C X d15_5 (q := 7) rfl (z := (7 : Int32)) rfl ?_
  refine g_icY C X d15_7 (by decide) (q := 70) (by decide) (by decide) ?_
  refine g_iload C X d15_70 (q := 72) rfl rfl ?_
  refine g_iload C X d15_72 (q := 74) rfl rfl ?_
  refine g_icN C X d15_74 (q := 77) rfl (by decide) ?_
  refine g_aloadN C X d15_77 (q := 78) rfl rfl rfl ?_
  refine g_iloadN C X d15_78 (q := 79) rfl rfl ?_
  refine g_iload C X d15_79 (q := 81) rfl rfl ?_
  refine g_iadd C X d15_81 (q := 82) rfl (z := (0 : Int32)) (by decide) ?_
  refine g_baload C X P0 (by decide) (w := (.int (87 : Int32))) rfl d15_82 (q := 83) rfl ?_
  refine g_aloadN C X d15_83 (q := 84) rfl rfl rfl ?_
  refine g_iloadN C X d15_84 (q := 85) rfl rfl ?_
  refine g_iload C X d15_85 (q := 87) rfl rfl ?_
  refine g_iadd C X d15_87 (q := 88) rfl (z := (0 : Int32)) (by decide) ?_
  refine g_baload C X P1 (by decide) (w := (.int (87 : Int32))) rfl d15_88 (q := 89) rfl ?_
  refine g_icY C X d15_89 (by decide) (q := 95) (by decide) (by decide) ?_
  refine g_iinc C X d15_95 (q := 98) rfl rfl (z := (1 : Int32)) (by decide) (L' := #[.val (.ref o0), .val (.int (0 : Int32)), .val (.ref o1), .val (.int (0 : Int32)), .val (.int (2 : Int32)), .val (.int (1 : Int32)), .unset, .unset]) rfl ?_
  refine g_goto C X d15_98 (by decide) (q := 70) (by decide) ?_
  refine g_iload C X d15_70 (q := 72) rfl rfl ?_
  refine g_iload C X d15_72 (q := 74) rfl rfl ?_
  refine g_icN C X d15_74 (q := 77) rfl (by decide) ?_
  refine g_aloadN C X d15_77 (q := 78) rfl rfl rfl ?_
  refine g_iloadN C X d15_78 (q := 79) rfl rfl ?_
  refine g_iload C X d15_79 (q := 81) rfl rfl ?_
  refine g_iadd C X d15_81 (q := 82) rfl (z := (1 : Int32)) (by decide) ?_
  refine g_baload C X P0 (by decide) (w := (.int i3)) rfl d15_82 (q := 83) rfl ?_
  refine g_aloadN C X d15_83 (q := 84) rfl rfl rfl ?_
  refine g_iloadN C X d15_84 (q := 85) rfl rfl ?_
  refine g_iload C X d15_85 (q := 87) rfl rfl ?_
  refine g_iadd C X d15_87 (q := 88) rfl (z := (1 : Int32)) (by decide) ?_
  refine g_baload C X P1 (by decide) (w := (.int (47 : Int32))) rfl d15_88 (q := 89) rfl ?_
  refine g_icN C X d15_89 (q := 92) rfl (feq Q0).1 ?_
  refine g_iload C X d15_92 (q := 94) rfl rfl ?_
  exact g_retI C X d15_94 (by decide) (by decide) ⟨_, rfl, rfl, rfl⟩
set_option maxRecDepth 65536 in
set_option maxHeartbeats 40000000 in
theorem rm_sw2_5 {l : Launch} {Z : State} {a0 : Array Value} (hw : ∀ d ∈ tables_1, d.before a0 Z = true) {cz : Int32} {fm : Value} {o0 : Addr} {o1 : Addr} {i2 : Int32} {i3 : Int32} {h0 : Heap} {n0 : Nat} (O : Old Z n0 h0) (W : Wd Z cz fm)  (P0 : Exa Z h0 o0 "java/lang/String") (P1 : Str Z h0 o0 [(87 : Int32), i2, i3]) (P2 : Exa Z h0 o1 "java/lang/String") (P3 : Str Z h0 o1 [(87 : Int32), (47 : Int32)]) (G0 : n0 ≤ o0) (Q0 : 0 ≤ i2.toInt) (Q1 : i2.toInt ≤ 255) (Q2 : ¬ i2 = (47 : Int32)) (Q3 : 0 ≤ i3.toInt) (Q4 : i3.toInt ≤ 255) :
    Met1 l Z (⟨"java/lang/String", "startsWith", "(Ljava/lang/String;I)Z"⟩ : MethodName) jdk_42_method_75_code 8 (some .boolean) ({ frames := 2, cells := 0, slots := 0, locals := 27 } : Room) #[(.ref o0), (.ref o1), (.int (0 : Int32))] h0 n0 (fun v h => v = (.int (0 : Int32)) ∧ h0 = h) := by
  refine met_of (L := #[.val (.ref o0), .val (.ref o1), .val (.int (0 : Int32)), .unset, .unset, .unset, .unset, .unset]) (plainFor_of_name pn_32) (fun m => by first | (simp [entryFrame, mkF, argsToLocals, Value.category]; done) | rfl) ?_
  intro p e s m below meth c T C X
  change Cx p s m meth c Z "java/lang/String" jdk_42_method_75_code 8 (some .boolean) "startsWith" at C
  refine g_iloadN C X d12_0 (q := 1) rfl rfl ?_
  refine g_ifN C X d12_1 (q := 4) rfl (by decide) ?_
  refine g_iloadN C X d12_4 (q := 5) rfl rfl ?_
  refine g_aloadN C X d12_5 (q := 6) rfl rfl rfl ?_
  refine g_strLen C X (own_wordsLen hw) (w32 hw) (w72 hw) (w73 hw) (w75 hw) (w74 hw) P1 (W.1.ext O.2) W.2.1 (W := 1) (by decide) (by decide) (by decide) (by decide) rfl rfl d12_6 (q := 9) rfl ?_
  intro T1 X2
  change Goes p e below _ (T1.setTop (mkF m 9 #[.val (.ref o0), .val (.ref o1), .val (.int (0 : Int32)), .unset, .unset, .unset, .unset, .unset] ((.int (3 : Int32)) :: [(.int (0 : Int32))])))
  refine g_aloadN C X2 d12_9 (q := 10) rfl rfl rfl ?_
  refine g_strLen C X2 (own_wordsLen hw) (w32 hw) (w72 hw) (w73 hw) (w75 hw) (w74 hw) P3 (W.1.ext O.2) W.2.1 (W := 2) (by decide) (by decide) (by decide) (by decide) rfl rfl d12_10 (q := 13) rfl ?_
  intro T3 X4
  change Goes p e below _ (T3.setTop (mkF m 13 #[.val (.ref o0), .val (.ref o1), .val (.int (0 : Int32)), .unset, .unset, .unset, .unset, .unset] ((.int (2 : Int32)) :: [(.int (3 : Int32)), (.int (0 : Int32))])))
  refine g_isub C X4 d12_13 (q := 14) rfl (z := (1 : Int32)) (by decide) ?_
  refine g_icY C X4 d12_14 (by decide) (q := 19) (by decide) (by decide) ?_
  refine g_aloadN C X4 d12_19 (q := 20) rfl rfl rfl ?_
  have F5 := P1
  obtain ⟨b6, kA7, f8, f9, f10, f11, -, -⟩ := F5
  have V12 : Arv Z h0 b6 kA7 .byte (3 : Int32) [(.int (87 : Int32)), (.int (i2.toInt8.toInt32)), (.int (i3.toInt8.toInt32))] (.int 0) := f11
  refine g_getF C X4 (host := "") (Or.inl (w57 hw)) Via.refl f9 d12_20 (q := 23) rfl ?_
  intro T13 X14
  refine g_astoreN C X14 d12_23 (q := 24) rfl rfl (L' := #[.val (.ref o0), .val (.ref o1), .val (.int (0 : Int32)), .val (.ref b6), .unset, .unset, .unset, .unset]) rfl ?_
  refine g_aloadN C X14 d12_24 (q := 25) rfl rfl rfl ?_
  have F15 := P3
  obtain ⟨b16, kA17, f18, f19, f20, f21, -, -⟩ := F15
  have V22 : Arv Z h0 b16 kA17 .byte (2 : Int32) [(.int (87 : Int32)), (.int (47 : Int32))] (.int 0) := f21
  refine g_getF C X14 (host := "") (Or.inl (w57 hw)) Via.refl f19 d12_25 (q := 28) rfl ?_
  intro T23 X24
  refine g_astore C X24 d12_28 (q := 30) rfl rfl (L' := #[.val (.ref o0), .val (.ref o1), .val (.int (0 : Int32)), .val (.ref b6), .val (.ref b16), .unset, .unset, .unset]) rfl ?_
  refine g_iconst C X24 d12_30 (q := 31) rfl (z := (0 : Int32)) rfl ?_
  refine g_istore C X24 d12_31 (q := 33) rfl (L' := #[.val (.ref o0), .val (.ref o1), .val (.int (0 : Int32)), .val (.ref b6), .val (.ref b16), .val (.int (0 : Int32)), .unset, .unset]) rfl ?_
  refine g_aload C X24 d12_33 (q := 35) rfl rfl rfl ?_
  refine g_alen C X24 V22 d12_35 (q := 36) rfl ?_
  refine g_istore C X24 d12_36 (q := 38) rfl (L' := #[.val (.ref o0), .val (.ref o1), .val (.int (0 : Int32)), .val (.ref b6), .val (.ref b16), .val (.int (0 : Int32)), .val (.int (2 : Int32)), .unset]) rfl ?_
  refine g_aloadN C X24 d12_38 (q := 39) rfl rfl rfl ?_
  refine g_callV1 C X24 (y := (⟨"java/lang/String", "coder", "()B"⟩ : MethodName)) (z := (⟨"java/lang/String", "coder", "()B"⟩ : MethodName)) (a := o0) (by decide) (w77 hw) (w78 hw) (w80 hw) (w79 hw) (nf_sel (w80 hw)) P0 (w81 hw) (w33 hw) (rm_cod_5 hw (o0 := o0) (i1 := i2) (i2 := i3) O W P0 P1 G0 Q0 Q1 Q2 Q3 Q4) (W := 0) (by decide) (by decide) (k' := 0) rfl (n' := 0) rfl (by decide) (by decide) rfl pd_153 (argsL := []) rfl (rest := []) rfl rfl rfl d12_39 (q := 42) rfl ?_
  rintro _ T25 _ X26 ⟨rfl, rfl⟩
  refine g_istore C X26 d12_42 (q := 44) rfl (L' := #[.val (.ref o0), .val (.ref o1), .val (.int (0 : Int32)), .val (.ref b6), .val (.ref b16), .val (.int (0 : Int32)), .val (.int (2 : Int32)), .val (.int (0 : Int32))]) rfl ?_
  refine g_iload C X26 d12_44 (q := 46) rfl rfl ?_
  refine g_aloadN C X26 d12_46 (q := 47) rfl rfl rfl ?_
  refine g_callV1 C X26 (y := (⟨"java/lang/String", "coder", "()B"⟩ : MethodName)) (z := (⟨"java/lang/String", "coder", "()B"⟩ : MethodName)) (a := o1) (by decide) (w77 hw) (w78 hw) (w80 hw) (w79 hw) (nf_sel (w80 hw)) P2 (w81 hw) (w33 hw) (rm_cod_1 hw (o0 := o1) O W P2 P3) (W := 1) (by decide) (by decide) (k' := 0) rfl (n' := 0) rfl (by decide) (by decide) rfl pd_153 (argsL := []) rfl (rest := [(.int (0 : Int32))]) rfl rfl rfl d12_47 (q := 50) rfl ?_
  rintro _ T27 _ X28 ⟨rfl, rfl⟩
  refine g_icN C X28 d12_50 (q := 53) rfl (by decide) ?_
  refine g_iload C X28 d12_53 (q := 55) rfl rfl ?_
  refine g_iconst C X28 d12_55 (q := 56) rfl (z := (1 : Int32)) rfl ?_
  refine g_icY C X28 d12_56 (by decide) (q := 63) (by decide) (by decide) ?_
  refine g_aloadN C X28 d12_63 (q := 64) rfl rfl rfl ?_
  refine g_iloadN C X28 d12_64 (q := 65) rfl rfl ?_
  refine g_aload C X28 d12_65 (q := 67) rfl rfl rfl ?_
  refine g_iconst C X28 d12_67 (q := 68) rfl (z := (0 : Int32)) rfl ?_
  refine g_iload C X28 d12_68 (q := 70) rfl rfl ?_
  refine g_callS1 C X28 (y := (⟨"jdk/internal/util/ArraysSupport", "mismatch", "([BI[BII)I"⟩ : MethodName)) (by decide) (w82 hw) (w83 hw) (w85 hw) (w84 hw) (rm_mis_4 hw (o0 := b6) (o1 := b16) (kc2 := kA7) (i3 := (i2.toInt8.toInt32)) (i4 := (i3.toInt8.toInt32)) (kc5 := kA17) O W V12 V22 (own_b8 Q0 Q1 (by decide) (by decide) Q2)) (W := 0) (by decide) (by decide) (k' := 0) rfl (n' := 0) rfl (by decide) (by decide) rfl pd_192 (argsL := [(.ref b6), (.int (0 : Int32)), (.ref b16), (.int (0 : Int32)), (.int (2 : Int32))]) rfl (rest := []) rfl rfl rfl d12_70 (q := 73) rfl ?_
  rintro _ T29 _ X30 ⟨rfl, rfl⟩
  refine g_ifY C X30 d12_73 (by decide) (q := 80) (by decide) (by decide) ?_
  refine g_iconst C X30 d12_80 (q := 81) rfl (z := (0 : Int32)) rfl ?_
  exact g_retN C X30 (Or.inl rfl) (z' := (0 : Int32)) (by decide) d12_81 (by decide) (by decide) ⟨_, rfl, rfl, rfl⟩
set_option maxRecDepth 65536 in
set_option maxHeartbeats 40000000 in
theorem rm_sw1_5 {l : Launch} {Z : State} {a0 : Array Value} (hw : ∀ d ∈ tables_1, d.before a0 Z = true) {cz : Int32} {fm : Value} {o0 : Addr} {o1 : Addr} {i2 : Int32} {i3 : Int32} {h0 : Heap} {n0 : Nat} (O : Old Z n0 h0) (W : Wd Z cz fm)  (P0 : Exa Z h0 o0 "java/lang/String") (P1 : Str Z h0 o0 [(87 : Int32), i2, i3]) (P2 : Exa Z h0 o1 "java/lang/String") (P3 : Str Z h0 o1 [(87 : Int32), (47 : Int32)]) (G0 : n0 ≤ o0) (Q0 : 0 ≤ i2.toInt) (Q1 : i2.toInt ≤ 255) (Q2 : ¬ i2 = (47 : Int32)) (Q3 : 0 ≤ i3.toInt) (Q4 : i3.toInt ≤ 255) :
    Met1 l Z (⟨"java/lang/String", "startsWith", "(Ljava/lang/String;)Z"⟩ : MethodName) jdk_42_method_76_code 2 (some .boolean) ({ frames := 3, cells := 0, slots := 0, locals := 46 } : Room) #[(.ref o0), (.ref o1)] h0 n0 (fun v h => v = (.int (0 : Int32)) ∧ h0 = h) := by
  refine met_of (L := #[.val (.ref o0), .val (.ref o1)]) (plainFor_of_name pn_32) (fun m => by first | (simp [entryFrame, mkF, argsToLocals, Value.category]; done) | rfl) ?_
  intro p e s m below meth c T C X
  change Cx p s m meth c Z "java/lang/String" jdk_42_method_76_code 2 (some .boolean) "startsWith" at C
  refine g_aloadN C X d11_0 (q := 1) rfl rfl rfl ?_
  refine g_aloadN C X d11_1 (q := 2) rfl rfl rfl ?_
  refine g_iconst C X d11_2 (q := 3) rfl (z := (0 : Int32)) rfl ?_
  refine g_callV1 C X (y := (⟨"java/lang/String", "startsWith", "(Ljava/lang/String;I)Z"⟩ : MethodName)) (z := (⟨"java/lang/String", "startsWith", "(Ljava/lang/String;I)Z"⟩ : MethodName)) (a := o0) (by decide) (w67 hw) (w68 hw) (w70 hw) (w69 hw) (nf_sel (w70 hw)) P0 (w71 hw) (w33 hw) (rm_sw2_5 hw (o0 := o0) (o1 := o1) (i2 := i2) (i3 := i3) O W P0 P1 P2 P3 G0 Q0 Q1 Q2 Q3 Q4) (W := 0) (by decide) (by decide) (k' := 0) rfl (n' := 0) rfl (by decide) (by decide) rfl pd_130 (argsL := [(.ref o1), (.int (0 : Int32))]) rfl (rest := []) rfl rfl rfl d11_3 (q := 6) rfl ?_
  rintro _ T1 _ X2 ⟨rfl, rfl⟩
  exact g_retN C X2 (Or.inl rfl) (z' := (0 : Int32)) (by decide) d11_6 (by decide) (by decide) ⟨_, rfl, rfl, rfl⟩
set_option maxRecDepth 65536 in
set_option maxHeartbeats 40000000 in
theorem rm_init_6 {l : Launch} {Z : State} {a0 : Array Value} (hw : ∀ d ∈ tables_1, d.before a0 Z = true) {cz : Int32} {fm : Value} {o0 : Addr} {o1 : Addr} {i2 : Int32} {i3 : Int32} {av4 : Value} {j5 : Int64} {av6 : Value} {h0 : Heap} {n0 : Nat} (O : Old Z n0 h0) (W : Wd Z cz fm)  (P0 : Exa Z h0 o0 "com/example/jetway/jetway/Fetcher$Validators") (P1 : Fld Z h0 o0 "com/example/jetway/jetway/Fetcher$Validators" "lastModified" "Ljava/lang/String;" .null) (P2 : Fld Z h0 o0 "com/example/jetway/jetway/Fetcher$Validators" "entityTag" "Ljava/lang/String;" .null) (P3 : Fld Z h0 o0 "com/example/jetway/jetway/Fetcher$Validators" "length" "J" (.long (0 : Int64))) (P4 : Fld Z h0 o0 "com/example/jetway/jetway/Fetcher$Validators" "versionId" "Ljava/lang/String;" .null) (P5 : Exa Z h0 o1 "java/lang/String") (P6 : Str Z h0 o1 [(87 : Int32), i2, i3]) (G0 : n0 ≤ o0) (G1 : n0 ≤ o1) (N0_1 : o0 ≠ o1) (Q0 : av4.isRef = true) (Q1 : av6.isRef = true) (Q2 : 0 ≤ i2.toInt) (Q3 : i2.toInt ≤ 255) (Q4 : ¬ i2 = (47 : Int32)) (Q5 : 0 ≤ i3.toInt) (Q6 : i3.toInt ≤ 255) :
    MetW0 l Z consts_1 (⟨"com/example/jetway/jetway/Fetcher$Validators", "<init>", "(Ljava/lang/String;Ljava/lang/String;JLjava/lang/String;)V"⟩ : MethodName) prog_37_method_1_code 6 none ({ frames := 4, cells := 2, slots := 12, locals := 59 } : Room) #[(.ref o0), av4, (.ref o1), (.long j5), av6] h0 n0 (fun h => Keep h0 h [o0] ∧ Exa Z h o0 "com/example/jetway/jetway/Fetcher$Validators" ∧ Fld Z h o0 "com/example/jetway/jetway/Fetcher$Validators" "lastModified" "Ljava/lang/String;" av4 ∧ Fld Z h o0 "com/example/jetway/jetway/Fetcher$Validators" "entityTag" "Ljava/lang/String;" (.ref o1) ∧ Fld Z h o0 "com/example/jetway/jetway/Fetcher$Validators" "length" "J" (.long j5) ∧ Fld Z h o0 "com/example/jetway/jetway/Fetcher$Validators" "versionId" "Ljava/lang/String;" av6) := by
  refine metW_of (L := #[.val (.ref o0), .val av4, .val (.ref o1), .val (.long j5), .second, .val av6]) (plainFor_of_name pn_96) (fun m => by (cases av4 <;> first | exact absurd Q0 Bool.false_ne_true | skip) <;> (cases av6 <;> first | exact absurd Q1 Bool.false_ne_true | skip) <;> first | (simp [entryFrame, mkF, argsToLocals, Value.category]; done) | rfl) ?_
  intro p e s m below meth c T vm C X Y
  change Cx p (s.setVm vm) m meth c Z "com/example/jetway/jetway/Fetcher$Validators" prog_37_method_1_code 6 none "<init>" at C
  refine g_aloadN C X d2_0 (q := 1) rfl rfl rfl ?_
  refine g_callI0 C X (y := (⟨"java/lang/Record", "<init>", "()V"⟩ : MethodName)) (a := o0) (by decide) rfl (w10 hw) (w11 hw) (w14 hw) (w13 hw) (rm_rec_0 hw (o0 := o0) O W P0 P1 P2 P3 P4 G0) (W := 0) (by decide) (by decide) (k' := 0) rfl (n' := 0) rfl (by decide) (by decide) rfl pd_80 (argsL := []) rfl (rest := []) rfl rfl rfl d2_1 (q := 4) rfl ?_
  rintro T1 _ X2 rfl
  refine g_aloadN C X2 d2_4 (q := 5) rfl rfl rfl ?_
  refine g_nulN C X2 d2_5 (q := 8) rfl ?_
  refine g_aloadN C X2 d2_8 (q := 9) rfl rfl rfl ?_
  refine gW_ldcC C X2 Y (own_EL hw) (vs := [(.int (87 : Int32)), (.int (47 : Int32))]) (z := 2) (w59 hw) (own_SA hw) (List.mem_of_getElem? (i := 0) rfl) ⟨by decide, by decide +kernel⟩ (by decide) rfl d2_9 (q := 11) rfl (nn := 8) (by decide) (by decide) (k' := 2) rfl (n' := 12) rfl (by decide) (by decide) ?_
  intro b3 b11 kA12 T4 h5 vm6 C X7 Y8 E9 R10 f13 f14 f15 f16 sf17
  have O18 := O.ext E9
  have F19 : Str Z h5 b3 [(87 : Int32), (47 : Int32)] := ⟨b11, kA12, f13, f15, f14, f16, by decide, by decide⟩
  have f20 := (P5.ext E9)
  have f21 := (P6.ext E9)
  refine g_callV1 C X7 (y := (⟨"java/lang/String", "startsWith", "(Ljava/lang/String;)Z"⟩ : MethodName)) (z := (⟨"java/lang/String", "startsWith", "(Ljava/lang/String;)Z"⟩ : MethodName)) (a := o1) (by decide) (w62 hw) (w63 hw) (w65 hw) (w64 hw) (nf_sel (w65 hw)) f20 (w66 hw) (w33 hw) (rm_sw1_5 hw (o0 := o1) (o1 := b3) (i2 := i2) (i3 := i3) O18 W f20 f21 f13 F19 G1 Q2 Q3 Q4 Q5 Q6) (W := 0) (by decide) (by decide) (k' := 2) rfl (n' := 12) rfl (by decide) (by decide) rfl pd_132 (argsL := [(.ref b3)]) rfl (rest := []) rfl rfl rfl d2_11 (q := 14) rfl ?_
  rintro _ T22 _ X23 ⟨rfl, rfl⟩
  refine g_ifY C X23 d2_14 (by decide) (q := 19) (by decide) (by decide) ?_
  refine g_aloadN C X23 d2_19 (q := 20) rfl rfl rfl ?_
  refine g_aloadN C X23 d2_20 (q := 21) rfl rfl Q0 ?_
  have f24 := (P1.ext E9)
  have f25 := (P0.ext E9)
  refine g_putF C X23 (host := "") (Or.inl (w18 hw)) Via.refl f24 f25 (Or.inr ⟨(w19 hw), rfl, rfl⟩) (w5 hw) (ty := (.object "java/lang/String")) (by decide) (own_narR Q0) (own_fitR Q0) d2_21 (q := 24) rfl G0 ?_
  intro T26 h28 X27 W29
  have FW29 := Fld.same W29 f24
  have Y30 := Wx.wr Y8 W29 (Safe.exa (Cx.alike C) f25 (by decide) (by decide))
  have O31 := O18.wr W29 G0
  refine g_aloadN C X27 d2_24 (q := 25) rfl rfl rfl ?_
  refine g_aloadN C X27 d2_25 (q := 26) rfl rfl rfl ?_
  have f32 := ((P2.ext E9).other W29 (Or.inr (slot_ne (Or.inr (w21 hw)) (Or.inr (w19 hw)) (by decide) (t := (.object "java/lang/String")) (t' := (.object "java/lang/String")) (by decide) (by decide))))
  have f33 := (f25.wr W29)
  refine g_putF C X27 (host := "") (Or.inl (w20 hw)) Via.refl f32 f33 (Or.inr ⟨(w21 hw), rfl, rfl⟩) (w5 hw) (ty := (.object "java/lang/String")) (by decide) rfl rfl d2_26 (q := 29) rfl G0 ?_
  intro T34 h36 X35 W37
  have FW37 := Fld.same W37 f32
  have Y38 := Wx.wr Y30 W37 (Safe.exa (Cx.alike C) f33 (by decide) (by decide))
  have O39 := O31.wr W37 G0
  refine g_aloadN C X35 d2_29 (q := 30) rfl rfl rfl ?_
  refine g_lloadN C X35 d2_30 (q := 31) rfl rfl ?_
  have f40 := (((P3.ext E9).other W29 (Or.inr (slot_ne (Or.inr (w23 hw)) (Or.inr (w19 hw)) (by decide) (t := .long) (t' := (.object "java/lang/String")) (by decide) (by decide)))).other W37 (Or.inr (slot_ne (Or.inr (w23 hw)) (Or.inr (w21 hw)) (by decide) (t := .long) (t' := (.object "java/lang/String")) (by decide) (by decide))))
  have f41 := (f33.wr W37)
  refine g_putF C X35 (host := "") (Or.inl (w22 hw)) Via.refl f40 f41 (Or.inr ⟨(w23 hw), rfl, rfl⟩) (w5 hw) (ty := .long) (by decide) rfl rfl d2_31 (q := 34) rfl G0 ?_
  intro T42 h44 X43 W45
  have FW45 := Fld.same W45 f40
  have Y46 := Wx.wr Y38 W45 (Safe.exa (Cx.alike C) f41 (by decide) (by decide))
  have O47 := O39.wr W45 G0
  refine g_aloadN C X43 d2_34 (q := 35) rfl rfl rfl ?_
  refine g_aload C X43 d2_35 (q := 37) rfl rfl Q1 ?_
  have f48 := ((((P4.ext E9).other W29 (Or.inr (slot_ne (Or.inr (w25 hw)) (Or.inr (w19 hw)) (by decide) (t := (.object "java/lang/String")) (t' := (.object "java/lang/String")) (by decide) (by decide)))).other W37 (Or.inr (slot_ne (Or.inr (w25 hw)) (Or.inr (w21 hw)) (by decide) (t := (.object "java/lang/String")) (t' := (.object "java/lang/String")) (by decide) (by decide)))).other W45 (Or.inr (slot_ne (Or.inr (w25 hw)) (Or.inr (w23 hw)) (by decide) (t := (.object "java/lang/String")) (t' := .long) (by decide) (by decide))))
  have f49 := (f41.wr W45)
  refine g_putF C X43 (host := "") (Or.inl (w24 hw)) Via.refl f48 f49 (Or.inr ⟨(w25 hw), rfl, rfl⟩) (w5 hw) (ty := (.object "java/lang/String")) (by decide) (own_narR Q1) (own_fitR Q1) d2_37 (q := 40) rfl G0 ?_
  intro T50 h52 X51 W53
  have FW53 := Fld.same W53 f48
  have Y54 := Wx.wr Y46 W53 (Safe.exa (Cx.alike C) f49 (by decide) (by decide))
  have O55 := O47.wr W53 G0
  exact gW_retV C X51 Y54 (own_EL hw) d2_40 (by decide) (by decide) ⟨rfl, ((((((Keep.refl h0 [o0]).ext E9).wr W29 (Or.inl (List.mem_of_getElem? (i := 0) rfl))).wr W37 (Or.inl (List.mem_of_getElem? (i := 0) rfl))).wr W45 (Or.inl (List.mem_of_getElem? (i := 0) rfl))).wr W53 (Or.inl (List.mem_of_getElem? (i := 0) rfl))), (f49.wr W53), (((FW29.other W37 (Or.inr (slot_ne (Or.inr (w19 hw)) (Or.inr (w21 hw)) (by decide) (t := (.object "java/lang/String")) (t' := (.object "java/lang/String")) (by decide) (by decide)))).other W45 (Or.inr (slot_ne (Or.inr (w19 hw)) (Or.inr (w23 hw)) (by decide) (t := (.object "java/lang/String")) (t' := .long) (by decide) (by decide)))).other W53 (Or.inr (slot_ne (Or.inr (w19 hw)) (Or.inr (w25 hw)) (by decide) (t := (.object "java/lang/String")) (t' := (.object "java/lang/String")) (by decide) (by decide)))), ((FW37.other W45 (Or.inr (slot_ne (Or.inr (w21 hw)) (Or.inr (w23 hw)) (by decide) (t := (.object "java/lang/String")) (t' := .long) (by decide) (by decide)))).other W53 (Or.inr (slot_ne (Or.inr (w21 hw)) (Or.inr (w25 hw)) (by decide) (t := (.object "java/lang/String")) (t' := (.object "java/lang/String")) (by decide) (by decide)))), (FW45.other W53 (Or.inr (slot_ne (Or.inr (w23 hw)) (Or.inr (w25 hw)) (by decide) (t := .long) (t' := (.object "java/lang/String")) (by decide) (by decide)))), FW53⟩
set_option maxRecDepth 65536 in
set_option maxHeartbeats 40000000 in
theorem rm_cod_6 {l : Launch} {Z : State} {a0 : Array Value} (hw : ∀ d ∈ tables_1, d.before a0 Z = true) {cz : Int32} {fm : Value} {o0 : Addr} {i1 : Int32} {i2 : Int32} {i3 : Int32} {h0 : Heap} {n0 : Nat} (O : Old Z n0 h0) (W : Wd Z cz fm)  (P0 : Exa Z h0 o0 "java/lang/String") (P1 : Str Z h0 o0 [i1, i2, i3]) (G0 : n0 ≤ o0) (Q0 : 0 ≤ i1.toInt) (Q1 : i1.toInt ≤ 255) (Q2 : ¬ i1 = (87 : Int32)) (Q3 : 0 ≤ i2.toInt) (Q4 : i2.toInt ≤ 255) (Q5 : 0 ≤ i3.toInt) (Q6 : i3.toInt ≤ 255) :
    Met1 l Z (⟨"java/lang/String", "coder", "()B"⟩ : MethodName) jdk_42_method_152_code 1 (some .byte) ({ frames := 0, cells := 0, slots := 0, locals := 0 } : Room) #[(.ref o0)] h0 n0 (fun v h => v = (.int (0 : Int32)) ∧ h0 = h) := by
  refine met_of (L := #[.val (.ref o0)]) (plainFor_of_name pn_32) (fun m => by first | (simp [entryFrame, mkF, argsToLocals, Value.category]; done) | rfl) ?_
  intro p e s m below meth c T C X
  change Cx p s m meth c Z "java/lang/String" jdk_42_method_152_code 1 (some .byte) "coder" at C
  refine g_getS C X (host := "") (Or.inl (w43 hw)) Via.refl (W.1.ext O.2) d14_0 (q := 3) rfl ?_
  intro T1 X2
  refine g_ifN C X2 d14_3 (q := 6) rfl (feq W.2.1).1 ?_
  refine g_aloadN C X2 d14_6 (q := 7) rfl rfl rfl ?_
  have F3 := P1
  obtain ⟨b4, kA5, f6, f7, f8, f9, -, -⟩ := F3
  have V10 : Arv Z h0 b4 kA5 .byte (3 : Int32) [(.int (i1.toInt8.toInt32)), (.int (i2.toInt8.toInt32)), (.int (i3.toInt8.toInt32))] (.int 0) := f9
  refine g_getF C X2 (host := "") (Or.inl (w55 hw)) Via.refl f8 d14_7 (q := 10) rfl ?_
  intro T11 X12
  refine g_goto C X12 d14_10 (by decide) (q := 14) (by decide) ?_
  exact g_retN C X12 (Or.inr (Or.inl rfl)) (z' := (0 : Int32)) (by decide) d14_14 (by decide) (by decide) ⟨_, rfl, rfl, rfl⟩
set_option maxRecDepth 65536 in
set_option maxHeartbeats 40000000 in
theorem rm_mis_5 {l : Launch} {Z : State} {a0 : Array Value} (hw : ∀ d ∈ tables_1, d.before a0 Z = true) {cz : Int32} {fm : Value} {o0 : Addr} {o1 : Addr} {kc2 : ClassId} {i3 : Int32} {i4 : Int32} {i5 : Int32} {kc6 : ClassId} {h0 : Heap} {n0 : Nat} (O : Old Z n0 h0) (W : Wd Z cz fm)  (P0 : Arv Z h0 o0 kc2 .byte (3 : Int32) [(.int i3), (.int i4), (.int i5)] (.int (0 : Int32))) (P1 : Arv Z h0 o1 kc6 .byte (2 : Int32) [(.int (87 : Int32)), (.int (47 : Int32))] (.int (0 : Int32))) (Q0 : ¬ i3 = (87 : Int32)) :
    Met1 l Z (⟨"jdk/internal/util/ArraysSupport", "mismatch", "([BI[BII)I"⟩ : MethodName) jdk_48_method_14_code 8 (some .int) ({ frames := 0, cells := 0, slots := 0, locals := 0 } : Room) #[(.ref o0), (.int (0 : Int32)), (.ref o1), (.int (0 : Int32)), (.int (2 : Int32))] h0 n0 (fun v h => v = (.int (0 : Int32)) ∧ h0 = h) := by
  refine met_of (L := #[.val (.ref o0), .val (.int (0 : Int32)), .val (.ref o1), .val (.int (0 : Int32)), .val (.int (2 : Int32)), .unset, .unset, .unset]) (plainFor_of_name pn_191) (fun m => by first | (simp [entryFrame, mkF, argsToLocals, Value.category]; done) | rfl) ?_
  intro p e s m below meth c T C X
  change Cx p s m meth c Z "jdk/internal/util/ArraysSupport" jdk_48_method_14_code 8 (some .int) "mismatch" at C
  refine g_iconst C X d15_0 (q := 1) rfl (z := (0 : Int32)) rfl ?_
  refine g_istore C X d15_1 (q := 3) rfl (L' := #[.val (.ref o0), .val (.int (0 : Int32)), .val (.ref o1), .val (.int (0 : Int32)), .val (.int (2 : Int32)), .val (.int (0 : Int32)), .unset, .unset]) rfl ?_
  refine g_iload C X d15_3 (q := 5) rfl rfl ?_
  refine g_bipush C X d15_5 (q := 7) rfl (z := (7 : Int32)) rfl ?_
  refine g_icY C X d15_7 (by decide) (q := 70) (by decide) (by decide) ?_
  refine g_iload C X d15_70 (q := 72) rfl rfl ?_
  refine g_iload C X d15_72 (q := 74) rfl rfl ?_
  refine g_icN C X d15_74 (q := 77) rfl (by decide) ?_
  refine g_aloadN C X d15_77 (q := 78) rfl rfl rfl ?_
  refine g_iloadN C X d15_78 (q := 79) rfl rfl ?_
  refine g_iload C X d15_79 (q := 81) rfl rfl ?_
  refine g_iadd C X d15_81 (q := 82) rfl (z := (0 : Int32)) (by decide) ?_
  refine g_baload C X P0 (by decide) (w := (.int i3)) rfl d15_82 (q := 83) rfl ?_
  refine g_aloadN C X d15_83 (q := 84) rfl rfl rfl ?_
  refine g_iloadN C X d15_84 (q := 85) rfl rfl ?_
  refine g_iload C X d15_85 (q := 87) rfl rfl ?_
  refine g_iadd C X d15_87 (q := 88) rfl (z := (0 : Int32)) (by decide) ?_
  refine g_baload C X P1 (by decide) (w := (.int (87 : Int32))) rfl d15_88 (q := 89) rfl ?_
  refine g_icN C X d15_89 (q := 92) rfl (feq Q0).1 ?_
  refine g_iload C X d15_92 (q := 94) rfl rfl ?_
  exact g_retI C X d15_94 (by decide) (by decide) ⟨_, rfl, rfl, rfl⟩
set_option maxRecDepth 65536 in
set_option maxHeartbeats 40000000 in
theorem rm_sw2_6 {l : Launch} {Z : State} {a0 : Array Value} (hw : ∀ d ∈ tables_1, d.before a0 Z = true) {cz : Int32} {fm : Value} {o0 : Addr} {o1 : Addr} {i2 : Int32} {i3 : Int32} {i4 : Int32} {h0 : Heap} {n0 : Nat} (O : Old Z n0 h0) (W : Wd Z cz fm)  (P0 : Exa Z h0 o0 "java/lang/String") (P1 : Str Z h0 o0 [i2, i3, i4]) (P2 : Exa Z h0 o1 "java/lang/String") (P3 : Str Z h0 o1 [(87 : Int32), (47 : Int32)]) (G0 : n0 ≤ o0) (Q0 : 0 ≤ i2.toInt) (Q1 : i2.toInt ≤ 255) (Q2 : ¬ i2 = (87 : Int32)) (Q3 : 0 ≤ i3.toInt) (Q4 : i3.toInt ≤ 255) (Q5 : 0 ≤ i4.toInt) (Q6 : i4.toInt ≤ 255) :
    Met1 l Z (⟨"java/lang/String", "startsWith", "(Ljava/lang/String;I)Z"⟩ : MethodName) jdk_42_method_75_code 8 (some .boolean) ({ frames := 2, cells := 0, slots := 0, locals := 27 } : Room) #[(.ref o0), (.ref o1), (.int (0 : Int32))] h0 n0 (fun v h => v = (.int (0 : Int32)) ∧ h0 = h) := by
  refine met_of (L := #[.val (.ref o0), .val (.ref o1), .val (.int (0 : Int32)), .unset, .unset, .unset, .unset, .unset]) (plainFor_of_name pn_32) (fun m => by first | (simp [entryFrame, mkF, argsToLocals, Value.category]; done) | rfl) ?_
  intro p e s m below meth c T C X
  change Cx p s m meth c Z "java/lang/String" jdk_42_method_75_code 8 (some .boolean) "startsWith" at C
  refine g_iloadN C X d12_0 (q := 1) rfl rfl ?_
  refine g_ifN C X d12_1 (q := 4) rfl (by decide) ?_
  refine g_iloadN C X d12_4 (q := 5) rfl rfl ?_
  refine g_aloadN C X d12_5 (q := 6) rfl rfl rfl ?_
  refine g_strLen C X (own_wordsLen hw) (w32 hw) (w72 hw) (w73 hw) (w75 hw) (w74 hw) P1 (W.1.ext O.2) W.2.1 (W := 1) (by decide) (by decide) (by decide) (by decide) rfl rfl d12_6 (q := 9) rfl ?_
  intro T1 X2
  change Goes p e below _ (T1.setTop (mkF m 9 #[.val (.ref o0), .val (.ref o1), .val (.int (0 : Int32)), .unset, .unset, .unset, .unset, .unset] ((.int (3 : Int32)) :: [(.int (0 : Int32))])))
  refine g_aloadN C X2 d12_9 (q := 10) rfl rfl rfl ?_
  refine g_strLen C X2 (own_wordsLen hw) (w32 hw) (w72 hw) (w73 hw) (w75 hw) (w74 hw) P3 (W.1.ext O.2) W.2.1 (W := 2) (by decide) (by decide) (by decide) (by decide) rfl rfl d12_10 (q := 13) rfl ?_
  intro T3 X4
  change Goes p e below _ (T3.setTop (mkF m 13 #[.val (.ref o0), .val (.ref o1), .val (.int (0 : Int32)), .unset, .unset, .unset, .unset, .unset] ((.int (2 : Int32)) :: [(.int (3 : Int32)), (.int (0 : Int32))])))
  refine g_isub C X4 d12_13 (q := 14) rfl (z := (1 : Int32)) (by decide) ?_
  refine g_icY C X4 d12_14 (by decide) (q := 19) (by decide) (by decide) ?_
  refine g_aloadN C X4 d12_19 (q := 20) rfl rfl rfl ?_
  have F5 := P1
  obtain ⟨b6, kA7, f8, f9, f10, f11, -, -⟩ := F5
  have V12 : Arv Z h0 b6 kA7 .byte (3 : Int32) [(.int (i2.toInt8.toInt32)), (.int (i3.toInt8.toInt32)), (.int (i4.toInt8.toInt32))] (.int 0) := f11
  refine g_getF C X4 (host := "") (Or.inl (w57 hw)) Via.refl f9 d12_20 (q := 23) rfl ?_
  intro T13 X14
  refine g_astoreN C X14 d12_23 (q := 24) rfl rfl (L' := #[.val (.ref o0), .val (.ref o1), .val (.int (0 : Int32)), .val (.ref b6), .unset, .unset, .unset, .unset]) rfl ?_
  refine g_aloadN C X14 d12_24 (q := 25) rfl rfl rfl ?_
  have F15 := P3
  obtain ⟨b16, kA17, f18, f19, f20, f21, -, -⟩ := F15
  have V22 : Arv Z h0 b16 kA17 .byte (2 : Int32) [(.int (87 : Int32)), (.int (47 : Int32))] (.int 0) := f21
  refine g_getF C X14 (host := "") (Or.inl (w57 hw)) Via.refl f19 d12_25 (q := 28) rfl ?_
  intro T23 X24
  refine g_astore C X24 d12_28 (q := 30) rfl rfl (L' := #[.val (.ref o0), .val (.ref o1), .val (.int (0 : Int32)), .val (.ref b6), .val (.ref b16), .unset, .unset, .unset]) rfl ?_
  refine g_iconst C X24 d12_30 (q := 31) rfl (z := (0 : Int32)) rfl ?_
  refine g_istore C X24 d12_31 (q := 33) rfl (L' := #[.val (.ref o0), .val (.ref o1), .val (.int (0 : Int32)), .val (.ref b6), .val (.ref b16), .val (.int (0 : Int32)), .unset, .unset]) rfl ?_
  refine g_aload C X24 d12_33 (q := 35) rfl rfl rfl ?_
  refine g_alen C X24 V22 d12_35 (q := 36) rfl ?_
  refine g_istore C X24 d12_36 (q := 38) rfl (L' := #[.val (.ref o0), .val (.ref o1), .val (.int (0 : Int32)), .val (.ref b6), .val (.ref b16), .val (.int (0 : Int32)), .val (.int (2 : Int32)), .unset]) rfl ?_
  refine g_aloadN C X24 d12_38 (q := 39) rfl rfl rfl ?_
  refine g_callV1 C X24 (y := (⟨"java/lang/String", "coder", "()B"⟩ : MethodName)) (z := (⟨"java/lang/String", "coder", "()B"⟩ : MethodName)) (a := o0) (by decide) (w77 hw) (w78 hw) (w80 hw) (w79 hw) (nf_sel (w80 hw)) P0 (w81 hw) (w33 hw) (rm_cod_6 hw (o0 := o0) (i1 := i2) (i2 := i3) (i3 := i4) O W P0 P1 G0 Q0 Q1 Q2 Q3 Q4 Q5 Q6) (W := 0) (by decide) (by decide) (k' := 0) rfl (n' := 0) rfl (by decide) (by decide) rfl pd_153 (argsL := []) rfl (rest := []) rfl rfl rfl d12_39 (q := 42) rfl ?_
  rintro _ T25 _ X26 ⟨rfl, rfl⟩
  refine g_istore C X26 d12_42 (q := 44) rfl (L' := #[.val (.ref o0), .val (.ref o1), .val (.int (0 : Int32)), .val (.ref b6), .val (.ref b16), .val (.int (0 : Int32)), .val (.int (2 : Int32)), .val (.int (0 : Int32))]) rfl ?_
  refine g_iload C X26 d12_44 (q := 46) rfl rfl ?_
  refine g_aloadN C X26 d12_46 (q := 47) rfl rfl rfl ?_
  refine g_callV1 C X26 (y := (⟨"java/lang/String", "coder", "()B"⟩ : MethodName)) (z := (⟨"java/lang/String", "coder", "()B"⟩ : MethodName)) (a := o1) (by decide) (w77 hw) (w78 hw) (w80 hw) (w79 hw) (nf_sel (w80 hw)) P2 (w81 hw) (w33 hw) (rm_cod_1 hw (o0 := o1) O W P2 P3) (W := 1) (by decide) (by decide) (k' := 0) rfl (n' := 0) rfl (by decide) (by decide) rfl pd_153 (argsL := []) rfl (rest := [(.int (0 : Int32))]) rfl rfl rfl d12_47 (q := 50) rfl ?_
  rintro _ T27 _ X28 ⟨rfl, rfl⟩
  refine g_icN C X28 d12_50 (q := 53) rfl (by decide) ?_
  refine g_iload C X28 d12_53 (q := 55) rfl rfl ?_
  refine g_iconst C X28 d12_55 (q := 56) rfl (z := (1 : Int32)) rfl ?_
  refine g_icY C X28 d12_56 (by decide) (q := 63) (by decide) (by decide) ?_
  refine g_aloadN C X28 d12_63 (q := 64) rfl rfl rfl ?_
  refine g_iloadN C X28 d12_64 (q := 65) rfl rfl ?_
  refine g_aload C X28 d12_65 (q := 67) rfl rfl rfl ?_
  refine g_iconst C X28 d12_67 (q := 68) rfl (z := (0 : Int32)) rfl ?_
  refine g_iload C X28 d12_68 (q := 70) rfl rfl ?_
  refine g_callS1 C X28 (y := (⟨"jdk/internal/util/ArraysSupport", "mismatch", "([BI[BII)I"⟩ : MethodName)) (by decide) (w82 hw) (w83 hw) (w85 hw) (w84 hw) (rm_mis_5 hw (o0 := b6) (o1 := b16) (kc2 := kA7) (i3 := (i2.toInt8.toInt32)) (i4 := (i3.toInt8.toInt32)) (i5 := (i4.toInt8.toInt32)) (kc6 := kA17) O W V12 V22 (own_b8 Q0 Q1 (by decide) (by decide) Q2)) (W := 0) (by decide) (by decide) (k' := 0) rfl (n' := 0) rfl (by decide) (by decide) rfl pd_192 (argsL := [(.ref b6), (.int (0 : Int32)), (.ref b16), (.int (0 : Int32)), (.int (2 : Int32))]) rfl (rest := []) rfl rfl rfl d12_70 (q := 73) rfl ?_
  rintro _ T29 _ X30 ⟨rfl, rfl⟩
  refine g_ifY C X30 d12_73 (by decide) (q := 80) (by decide) (by decide) ?_
  refine g_iconst C X30 d12_80 (q := 81) rfl (z := (0 : Int32)) rfl ?_
  exact g_retN C X30 (Or.inl rfl) (z' := (0 : Int32)) (by decide) d12_81 (by decide) (by decide) ⟨_, rfl, rfl, rfl⟩
set_option maxRecDepth 65536 in
set_option maxHeartbeats 40000000 in
theorem rm_sw1_6 {l : Launch} {Z : State} {a0 : Array Value} (hw : ∀ d ∈ tables_1, d.before a0 Z = true) {cz : Int32} {fm : Value} {o0 : Addr} {o1 : Addr} {i2 : Int32} {i3 : Int32} {i4 : Int32} {h0 : Heap} {n0 : Nat} (O : Old Z n0 h0) (W : Wd Z cz fm)  (P0 : Exa Z h0 o0 "java/lang/String") (P1 : Str Z h0 o0 [i2, i3, i4]) (P2 : Exa Z h0 o1 "java/lang/String") (P3 : Str Z h0 o1 [(87 : Int32), (47 : Int32)]) (G0 : n0 ≤ o0) (Q0 : 0 ≤ i2.toInt) (Q1 : i2.toInt ≤ 255) (Q2 : ¬ i2 = (87 : Int32)) (Q3 : 0 ≤ i3.toInt) (Q4 : i3.toInt ≤ 255) (Q5 : 0 ≤ i4.toInt) (Q6 : i4.toInt ≤ 255) :
    Met1 l Z (⟨"java/lang/String", "startsWith", "(Ljava/lang/String;)Z"⟩ : MethodName) jdk_42_method_76_code 2 (some .boolean) ({ frames := 3, cells := 0, slots := 0, locals := 46 } : Room) #[(.ref o0), (.ref o1)] h0 n0 (fun v h => v = (.int (0 : Int32)) ∧ h0 = h) := by
  refine met_of (L := #[.val (.ref o0), .val (.ref o1)]) (plainFor_of_name pn_32) (fun m => by first | (simp [entryFrame, mkF, argsToLocals, Value.category]; done) | rfl) ?_
  intro p e s m below meth c T C X
  change Cx p s m meth c Z "java/lang/String" jdk_42_method_76_code 2 (some .boolean) "startsWith" at C
  refine g_aloadN C X d11_0 (q := 1) rfl rfl rfl ?_
  refine g_aloadN C X d11_1 (q := 2) rfl rfl rfl ?_
  refine g_iconst C X d11_2 (q := 3) rfl (z := (0 : Int32)) rfl ?_
  refine g_callV1 C X (y := (⟨"java/lang/String", "startsWith", "(Ljava/lang/String;I)Z"⟩ : MethodName)) (z := (⟨"java/lang/String", "startsWith", "(Ljava/lang/String;I)Z"⟩ : MethodName)) (a := o0) (by decide) (w67 hw) (w68 hw) (w70 hw) (w69 hw) (nf_sel (w70 hw)) P0 (w71 hw) (w33 hw) (rm_sw2_6 hw (o0 := o0) (o1 := o1) (i2 := i2) (i3 := i3) (i4 := i4) O W P0 P1 P2 P3 G0 Q0 Q1 Q2 Q3 Q4 Q5 Q6) (W := 0) (by decide) (by decide) (k' := 0) rfl (n' := 0) rfl (by decide) (by decide) rfl pd_130 (argsL := [(.ref o1), (.int (0 : Int32))]) rfl (rest := []) rfl rfl rfl d11_3 (q := 6) rfl ?_
  rintro _ T1 _ X2 ⟨rfl, rfl⟩
  exact g_retN C X2 (Or.inl rfl) (z' := (0 : Int32)) (by decide) d11_6 (by decide) (by decide) ⟨_, rfl, rfl, rfl⟩
set_option maxRecDepth 65536 in
set_option maxHeartbeats 40000000 in
theorem rm_init_7 {l : Launch} {Z : State} {a0 : Array Value} (hw : ∀ d ∈ tables_1, d.before a0 Z = true) {cz : Int32} {fm : Value} {o0 : Addr} {o1 : Addr} {i2 : Int32} {i3 : Int32} {i4 : Int32} {av5 : Value} {j6 : Int64} {av7 : Value} {h0 : Heap} {n0 : Nat} (O : Old Z n0 h0) (W : Wd Z cz fm)  (P0 : Exa Z h0 o0 "com/example/jetway/jetway/Fetcher$Validators") (P1 : Fld Z h0 o0 "com/example/jetway/jetway/Fetcher$Validators" "lastModified" "Ljava/lang/String;" .null) (P2 : Fld Z h0 o0 "com/example/jetway/jetway/Fetcher$Validators" "entityTag" "Ljava/lang/String;" .null) (P3 : Fld Z h0 o0 "com/example/jetway/jetway/Fetcher$Validators" "length" "J" (.long (0 : Int64))) (P4 : Fld Z h0 o0 "com/example/jetway/jetway/Fetcher$Validators" "versionId" "Ljava/lang/String;" .null) (P5 : Exa Z h0 o1 "java/lang/String") (P6 : Str Z h0 o1 [i2, i3, i4]) (G0 : n0 ≤ o0) (G1 : n0 ≤ o1) (N0_1 : o0 ≠ o1) (Q0 : av5.isRef = true) (Q1 : av7.isRef = true) (Q2 : 0 ≤ i2.toInt) (Q3 : i2.toInt ≤ 255) (Q4 : ¬ i2 = (87 : Int32)) (Q5 : 0 ≤ i3.toInt) (Q6 : i3.toInt ≤ 255) (Q7 : 0 ≤ i4.toInt) (Q8 : i4.toInt ≤ 255) :
    MetW0 l Z consts_1 (⟨"com/example/jetway/jetway/Fetcher$Validators", "<init>", "(Ljava/lang/String;Ljava/lang/String;JLjava/lang/String;)V"⟩ : MethodName) prog_37_method_1_code 6 none ({ frames := 4, cells := 2, slots := 12, locals := 59 } : Room) #[(.ref o0), av5, (.ref o1), (.long j6), av7] h0 n0 (fun h => Keep h0 h [o0] ∧ Exa Z h o0 "com/example/jetway/jetway/Fetcher$Validators" ∧ Fld Z h o0 "com/example/jetway/jetway/Fetcher$Validators" "lastModified" "Ljava/lang/String;" av5 ∧ Fld Z h o0 "com/example/jetway/jetway/Fetcher$Validators" "entityTag" "Ljava/lang/String;" (.ref o1) ∧ Fld Z h o0 "com/example/jetway/jetway/Fetcher$Validators" "length" "J" (.long j6) ∧ Fld Z h o0 "com/example/jetway/jetway/Fetcher$Validators" "versionId" "Ljava/lang/String;" av7) := by
  refine metW_of (L := #[.val (.ref o0), .val av5, .val (.ref o1), .val (.long j6), .second, .val av7]) (plainFor_of_name pn_96) (fun m => by (cases av5 <;> first | exact absurd Q0 Bool.false_ne_true | skip) <;> (cases av7 <;> first | exact absurd Q1 Bool.false_ne_true | skip) <;> first | (simp [entryFrame, mkF, argsToLocals, Value.category]; done) | rfl) ?_
  intro p e s m below meth c T vm C X Y
  change Cx p (s.setVm vm) m meth c Z "com/example/jetway/jetway/Fetcher$Validators" prog_37_method_1_code 6 none "<init>" at C
  refine g_aloadN C X d2_0 (q := 1) rfl rfl rfl ?_
  refine g_callI0 C X (y := (⟨"java/lang/Record", "<init>", "()V"⟩ : MethodName)) (a := o0) (by decide) rfl (w10 hw) (w11 hw) (w14 hw) (w13 hw) (rm_rec_0 hw (o0 := o0) O W P0 P1 P2 P3 P4 G0) (W := 0) (by decide) (by decide) (k' := 0) rfl (n' := 0) rfl (by decide) (by decide) rfl pd_80 (argsL := []) rfl (rest := []) rfl rfl rfl d2_1 (q := 4) rfl ?_
  rintro T1 _ X2 rfl
  refine g_aloadN C X2 d2_4 (q := 5) rfl rfl rfl ?_
  refine g_nulN C X2 d2_5 (q := 8) rfl ?_
  refine g_aloadN C X2 d2_8 (q := 9) rfl rfl rfl ?_
  refine gW_ldcC C X2 Y (own_EL hw) (vs := [(.int (87 : Int32)), (.int (47 : Int32))]) (z := 2) (w59 hw) (own_SA hw) (List.mem_of_getElem? (i := 0) rfl) ⟨by decide, by decide +kernel⟩ (by decide) rfl d2_9 (q := 11) rfl (nn := 8) (by decide) (by decide) (k' := 2) rfl (n' := 12) rfl (by decide) (by decide) ?_
  intro b3 b11 kA12 T4 h5 vm6 C X7 Y8 E9 R10 f13 f14 f15 f16 sf17
  have O18 := O.ext E9
  have F19 : Str Z h5 b3 [(87 : Int32), (47 : Int32)] := ⟨b11, kA12, f13, f15, f14, f16, by decide, by decide⟩
  have f20 := (P5.ext E9)
  have f21 := (P6.ext E9)
  refine g_callV1 C X7 (y := (⟨"java/lang/String", "startsWith", "(Ljava/lang/String;)Z"⟩ : MethodName)) (z := (⟨"java/lang/String", "startsWith", "(Ljava/lang/String;)Z"⟩ : MethodName)) (a := o1) (by decide) (w62 hw) (w63 hw) (w65 hw) (w64 hw) (nf_sel (w65 hw)) f20 (w66 hw) (w33 hw) (rm_sw1_6 hw (o0 := o1) (o1 := b3) (i2 := i2) (i3 := i3) (i4 := i4) O18 W f20 f21 f13 F19 G1 Q2 Q3 Q4 Q5 Q6 Q7 Q8) (W := 0) (by decide) (by decide) (k' := 2) rfl (n' := 12) rfl (by decide) (by decide) rfl pd_132 (argsL := [(.ref b3)]) rfl (rest := []) rfl rfl rfl d2_11 (q := 14) rfl ?_
  rintro _ T22 _ X23 ⟨rfl, rfl⟩
  refine g_ifY C X23 d2_14 (by decide) (q := 19) (by decide) (by decide) ?_
  refine g_aloadN C X23 d2_19 (q := 20) rfl rfl rfl ?_
  refine g_aloadN C X23 d2_20 (q := 21) rfl rfl Q0 ?_
  have f24 := (P1.ext E9)
  have f25 := (P0.ext E9)
  refine g_putF C X23 (host := "") (Or.inl (w18 hw)) Via.refl f24 f25 (Or.inr ⟨(w19 hw), rfl, rfl⟩) (w5 hw) (ty := (.object "java/lang/String")) (by decide) (own_narR Q0) (own_fitR Q0) d2_21 (q := 24) rfl G0 ?_
  intro T26 h28 X27 W29
  have FW29 := Fld.same W29 f24
  have Y30 := Wx.wr Y8 W29 (Safe.exa (Cx.alike C) f25 (by decide) (by decide))
  have O31 := O18.wr W29 G0
  refine g_aloadN C X27 d2_24 (q := 25) rfl rfl rfl ?_
  refine g_aloadN C X27 d2_25 (q := 26) rfl rfl rfl ?_
  have f32 := ((P2.ext E9).other W29 (Or.inr (slot_ne (Or.inr (w21 hw)) (Or.inr (w19 hw)) (by decide) (t := (.object "java/lang/String")) (t' := (.object "java/lang/String")) (by decide) (by decide))))
  have f33 := (f25.wr W29)
  refine g_putF C X27 (host := "") (Or.inl (w20 hw)) Via.refl f32 f33 (Or.inr ⟨(w21 hw), rfl, rfl⟩) (w5 hw) (ty := (.object "java/lang/String")) (by decide) rfl rfl d2_26 (q := 29) rfl G0 ?_
  intro T34 h36 X35 W37
  have FW37 := Fld.same W37 f32
  have Y38 := Wx.wr Y30 W37 (Safe.exa (Cx.alike C) f33 (by decide) (by decide))
  have O39 := O31.wr W37 G0
  refine g_aloadN C X35 d2_29 (q := 30) rfl rfl rfl ?_
  refine g_lloadN C X35 d2_30 (q := 31) rfl rfl ?_
  have f40 := (((P3.ext E9).other W29 (Or.inr (slot_ne (Or.inr (w23 hw)) (Or.inr (w19 hw)) (by decide) (t := .long) (t' := (.object "java/lang/String")) (by decide) (by decide)))).other W37 (Or.inr (slot_ne (Or.inr (w23 hw)) (Or.inr (w21 hw)) (by decide) (t := .long) (t' := (.object "java/lang/String")) (by decide) (by decide))))
  have f41 := (f33.wr W37)
  refine g_putF C X35 (host := "") (Or.inl (w22 hw)) Via.refl f40 f41 (Or.inr ⟨(w23 hw), rfl, rfl⟩) (w5 hw) (ty := .long) (by decide) rfl rfl d2_31 (q := 34) rfl G0 ?_
  intro T42 h44 X43 W45
  have FW45 := Fld.same W45 f40
  have Y46 := Wx.wr Y38 W45 (Safe.exa (Cx.alike C) f41 (by decide) (by decide))
  have O47 := O39.wr W45 G0
  refine g_aloadN C X43 d2_34 (q := 35) rfl rfl rfl ?_
  refine g_aload C X43 d2_35 (q := 37) rfl rfl Q1 ?_
  have f48 := ((((P4.ext E9).other W29 (Or.inr (slot_ne (Or.inr (w25 hw)) (Or.inr (w19 hw)) (by decide) (t := (.object "java/lang/String")) (t' := (.object "java/lang/String")) (by decide) (by decide)))).other W37 (Or.inr (slot_ne (Or.inr (w25 hw)) (Or.inr (w21 hw)) (by decide) (t := (.object "java/lang/String")) (t' := (.object "java/lang/String")) (by decide) (by decide)))).other W45 (Or.inr (slot_ne (Or.inr (w25 hw)) (Or.inr (w23 hw)) (by decide) (t := (.object "java/lang/String")) (t' := .long) (by decide) (by decide))))
  have f49 := (f41.wr W45)
  refine g_putF C X43 (host := "") (Or.inl (w24 hw)) Via.refl f48 f49 (Or.inr ⟨(w25 hw), rfl, rfl⟩) (w5 hw) (ty := (.object "java/lang/String")) (by decide) (own_narR Q1) (own_fitR Q1) d2_37 (q := 40) rfl G0 ?_
  intro T50 h52 X51 W53
  have FW53 := Fld.same W53 f48
  have Y54 := Wx.wr Y46 W53 (Safe.exa (Cx.alike C) f49 (by decide) (by decide))
  have O55 := O47.wr W53 G0
  exact gW_retV C X51 Y54 (own_EL hw) d2_40 (by decide) (by decide) ⟨rfl, ((((((Keep.refl h0 [o0]).ext E9).wr W29 (Or.inl (List.mem_of_getElem? (i := 0) rfl))).wr W37 (Or.inl (List.mem_of_getElem? (i := 0) rfl))).wr W45 (Or.inl (List.mem_of_getElem? (i := 0) rfl))).wr W53 (Or.inl (List.mem_of_getElem? (i := 0) rfl))), (f49.wr W53), (((FW29.other W37 (Or.inr (slot_ne (Or.inr (w19 hw)) (Or.inr (w21 hw)) (by decide) (t := (.object "java/lang/String")) (t' := (.object "java/lang/String")) (by decide) (by decide)))).other W45 (Or.inr (slot_ne (Or.inr (w19 hw)) (Or.inr (w23 hw)) (by decide) (t := (.object "java/lang/String")) (t' := .long) (by decide) (by decide)))).other W53 (Or.inr (slot_ne (Or.inr (w19 hw)) (Or.inr (w25 hw)) (by decide) (t := (.object "java/lang/String")) (t' := (.object "java/lang/String")) (by decide) (by decide)))), ((FW37.other W45 (Or.inr (slot_ne (Or.inr (w21 hw)) (Or.inr (w23 hw)) (by decide) (t := (.object "java/lang/String")) (t' := .long) (by decide) (by decide)))).other W53 (Or.inr (slot_ne (Or.inr (w21 hw)) (Or.inr (w25 hw)) (by decide) (t := (.object "java/lang/String")) (t' := (.object "java/lang/String")) (by decide) (by decide)))), (FW45.other W53 (Or.inr (slot_ne (Or.inr (w23 hw)) (Or.inr (w25 hw)) (by decide) (t := .long) (t' := (.object "java/lang/String")) (by decide) (by decide)))), FW53⟩
set_option maxRecDepth 65536 in
set_option maxHeartbeats 40000000 in
theorem rmLaw {l : Launch} {Z : State} {a0 : Array Value} (hw : ∀ d ∈ tables_1, d.before a0 Z = true) {p0 p1 : Int32} {p2 : Int64} {cz : Int32} {fm : Value} {h0 : Heap} {n0 : Nat} (O : Old Z n0 h0) (W : Wd Z cz fm) :
    MetW1 l Z consts_1 x code maxLocals ret room_1 #[(.int p0), (.int p1), (.long p2)] h0 n0 (fun v h => v = .int 1 ∧ True) := by
  refine metW_of (L := #[.val (.int p0), .val (.int p1), .val (.long p2), .second, .unset, .unset, .unset, .unset, .unset, .unset, .unset, .unset, .unset, .unset]) (plainFor_of_name pn_72) (fun m => by first | (simp [entryFrame, mkF, argsToLocals, Value.category, maxLocals]; done) | rfl) ?_
  intro p e s m below meth c T vm C X Y
  change Cx p (s.setVm vm) m meth c Z "com/example/jetway/jetway/ValidatorsStatesVersionPinLaw" code 14 (some .boolean) "law" at C
  change Goes p e below (FinW Z consts_1 _ s n0 32 2240) _
  refine g_iloadN C X at_0 (q := 1) rfl rfl ?_
  refine g_sipush C X at_1 (q := 4) rfl (z := (255 : Int32)) rfl ?_
  obtain ⟨v1, ev1⟩ : ∃ z, (p1 &&& (255 : Int32)) = z := ⟨_, rfl⟩
  have hl2 : 0 ≤ v1.toInt := by rw [← ev1]; exact (c_and p1 (255 : Int32) (by decide)).1
  have hh3 : v1.toInt ≤ 255 := by rw [← ev1]; exact (c_and p1 (255 : Int32) (by decide)).2
  refine g_iand C X at_4 (q := 5) rfl (z := v1) ev1 ?_
  refine g_i2c C X at_5 (q := 6) rfl (z := v1) (own_i2c hl2 hh3 (by decide) (by decide)) ?_
  refine g_istore C X at_6 (q := 8) rfl (L' := #[.val (.int p0), .val (.int p1), .val (.long p2), .second, .val (.int v1), .unset, .unset, .unset, .unset, .unset, .unset, .unset, .unset, .unset]) rfl ?_
  refine g_iloadN C X at_8 (q := 9) rfl rfl ?_
  refine g_bipush C X at_9 (q := 11) rfl (z := (8 : Int32)) rfl ?_
  refine g_iushr C X at_11 (q := 12) rfl (z := ((p1.toUInt32 >>> ((8 : Int32) &&& 31).toUInt32).toInt32)) rfl ?_
  refine g_sipush C X at_12 (q := 15) rfl (z := (255 : Int32)) rfl ?_
  obtain ⟨v4, ev4⟩ : ∃ z, (((p1.toUInt32 >>> ((8 : Int32) &&& 31).toUInt32).toInt32) &&& (255 : Int32)) = z := ⟨_, rfl⟩
  have hl5 : 0 ≤ v4.toInt := by rw [← ev4]; exact (c_and ((p1.toUInt32 >>> ((8 : Int32) &&& 31).toUInt32).toInt32) (255 : Int32) (by decide)).1
  have hh6 : v4.toInt ≤ 255 := by rw [← ev4]; exact (c_and ((p1.toUInt32 >>> ((8 : Int32) &&& 31).toUInt32).toInt32) (255 : Int32) (by decide)).2
  refine g_iand C X at_15 (q := 16) rfl (z := v4) ev4 ?_
  refine g_i2c C X at_16 (q := 17) rfl (z := v4) (own_i2c hl5 hh6 (by decide) (by decide)) ?_
  refine g_istore C X at_17 (q := 19) rfl (L' := #[.val (.int p0), .val (.int p1), .val (.long p2), .second, .val (.int v1), .val (.int v4), .unset, .unset, .unset, .unset, .unset, .unset, .unset, .unset]) rfl ?_
  refine g_iloadN C X at_19 (q := 20) rfl rfl ?_
  refine g_bipush C X at_20 (q := 22) rfl (z := (16 : Int32)) rfl ?_
  refine g_iushr C X at_22 (q := 23) rfl (z := ((p1.toUInt32 >>> ((16 : Int32) &&& 31).toUInt32).toInt32)) rfl ?_
  refine g_sipush C X at_23 (q := 26) rfl (z := (255 : Int32)) rfl ?_
  obtain ⟨v7, ev7⟩ : ∃ z, (((p1.toUInt32 >>> ((16 : Int32) &&& 31).toUInt32).toInt32) &&& (255 : Int32)) = z := ⟨_, rfl⟩
  have hl8 : 0 ≤ v7.toInt := by rw [← ev7]; exact (c_and ((p1.toUInt32 >>> ((16 : Int32) &&& 31).toUInt32).toInt32) (255 : Int32) (by decide)).1
  have hh9 : v7.toInt ≤ 255 := by rw [← ev7]; exact (c_and ((p1.toUInt32 >>> ((16 : Int32) &&& 31).toUInt32).toInt32) (255 : Int32) (by decide)).2
  refine g_iand C X at_26 (q := 27) rfl (z := v7) ev7 ?_
  refine g_i2c C X at_27 (q := 28) rfl (z := v7) (own_i2c hl8 hh9 (by decide) (by decide)) ?_
  refine g_istore C X at_28 (q := 30) rfl (L' := #[.val (.int p0), .val (.int p1), .val (.long p2), .second, .val (.int v1), .val (.int v4), .val (.int v7), .unset, .unset, .unset, .unset, .unset, .unset, .unset]) rfl ?_
  refine g_iloadN C X at_30 (q := 31) rfl rfl ?_
  refine g_bipush C X at_31 (q := 33) rfl (z := (16 : Int32)) rfl ?_
  obtain ⟨v10, ev10⟩ : ∃ z, (p0 &&& (16 : Int32)) = z := ⟨_, rfl⟩
  have hl11 : 0 ≤ v10.toInt := by rw [← ev10]; exact (c_and p0 (16 : Int32) (by decide)).1
  have hh12 : v10.toInt ≤ 16 := by rw [← ev10]; exact (c_and p0 (16 : Int32) (by decide)).2
  refine g_iand C X at_33 (q := 34) rfl (z := v10) ev10 ?_
  by_cases hc13 : v10 = (0 : Int32)
  · refine g_ifY C X at_34 (by decide) (q := 45) (by decide) (teq hc13).1 ?_
    obtain rfl : v10 = (0 : Int32) := hc13
    refine g_iloadN C X at_45 (q := 46) rfl rfl ?_
    refine g_iconst C X at_46 (q := 47) rfl (z := (3 : Int32)) rfl ?_
    obtain ⟨v15, ev15⟩ : ∃ z, (p0 &&& (3 : Int32)) = z := ⟨_, rfl⟩
    have hl16 : 0 ≤ v15.toInt := by rw [← ev15]; exact (c_and p0 (3 : Int32) (by decide)).1
    have hh17 : v15.toInt ≤ 3 := by rw [← ev15]; exact (c_and p0 (3 : Int32) (by decide)).2
    refine g_iand C X at_47 (q := 48) rfl (z := v15) ev15 ?_
    refine g_iload C X at_48 (q := 50) rfl rfl ?_
    refine g_iload C X at_50 (q := 52) rfl rfl ?_
    refine g_iload C X at_52 (q := 54) rfl rfl ?_
    refine gW_callS1 C X Y (own_EL hw) (y := (⟨"com/example/jetway/jetway/ValidatorsStatesVersionPinLaw", "pick", "(ICCC)Ljava/lang/String;"⟩ : MethodName)) (by decide) (w0 hw) (w1 hw) (w3 hw) (w2 hw) (rm_pick hw (p0 := v15) (p1 := v1) (p2 := v4) (p3 := v7) O W hl2 hh3 hl5 hh6 hl8 hh9) (W := 0) (by decide) (by decide) (k' := 6) rfl (n' := 12) rfl (by decide) (by decide) rfl pd_73 (argsL := [(.int v15), (.int v1), (.int v4), (.int v7)]) rfl (rest := []) rfl rfl rfl at_54 (q := 57) rfl ?_
    rintro v18 T19 h20 vm21 C X22 Y23 R24 ⟨K25, ho26⟩
    have O27 := O.keep K25 all0
    have hr35 : v18.isRef = true := by rcases ho26 with q | ⟨_, _, q, -⟩ <;> rw [q] <;> rfl
    refine g_astore C X22 at_57 (q := 59) rfl hr35 (L' := #[.val (.int p0), .val (.int p1), .val (.long p2), .second, .val (.int v1), .val (.int v4), .val (.int v7), .val v18, .unset, .unset, .unset, .unset, .unset, .unset]) (by (cases v18 <;> first | exact absurd hr35 Bool.false_ne_true | skip) <;> rfl) ?_
    refine g_iloadN C X22 at_59 (q := 60) rfl rfl ?_
    refine g_iconst C X22 at_60 (q := 61) rfl (z := (2 : Int32)) rfl ?_
    refine g_iushr C X22 at_61 (q := 62) rfl (z := ((p0.toUInt32 >>> ((2 : Int32) &&& 31).toUInt32).toInt32)) rfl ?_
    refine g_iconst C X22 at_62 (q := 63) rfl (z := (3 : Int32)) rfl ?_
    obtain ⟨v36, ev36⟩ : ∃ z, (((p0.toUInt32 >>> ((2 : Int32) &&& 31).toUInt32).toInt32) &&& (3 : Int32)) = z := ⟨_, rfl⟩
    have hl37 : 0 ≤ v36.toInt := by rw [← ev36]; exact (c_and ((p0.toUInt32 >>> ((2 : Int32) &&& 31).toUInt32).toInt32) (3 : Int32) (by decide)).1
    have hh38 : v36.toInt ≤ 3 := by rw [← ev36]; exact (c_and ((p0.toUInt32 >>> ((2 : Int32) &&& 31).toUInt32).toInt32) (3 : Int32) (by decide)).2
    refine g_iand C X22 at_63 (q := 64) rfl (z := v36) ev36 ?_
    refine g_iload C X22 at_64 (q := 66) rfl rfl ?_
    refine g_iload C X22 at_66 (q := 68) rfl rfl ?_
    refine g_iload C X22 at_68 (q := 70) rfl rfl ?_
    refine gW_callS1 C X22 Y23 (own_EL hw) (y := (⟨"com/example/jetway/jetway/ValidatorsStatesVersionPinLaw", "pick", "(ICCC)Ljava/lang/String;"⟩ : MethodName)) (by decide) (w0 hw) (w1 hw) (w3 hw) (w2 hw) (rm_pick hw (p0 := v36) (p1 := v1) (p2 := v4) (p3 := v7) O27 W hl2 hh3 hl5 hh6 hl8 hh9) (W := 0) (by decide) (by decide) (k' := 12) rfl (n' := 24) rfl (by decide) (by decide) rfl pd_73 (argsL := [(.int v36), (.int v1), (.int v4), (.int v7)]) rfl (rest := []) rfl rfl rfl at_70 (q := 73) rfl ?_
    rintro v39 T40 h41 vm42 C X43 Y44 R45 ⟨K46, ho47⟩
    have O48 := O27.keep K46 all0
    rcases ho47 with rfl | ⟨b49, cs50, rfl, ge51, sz52, E53, F54, rfl | rfl | rfl⟩
    · refine g_astore C X43 at_73 (q := 75) rfl rfl (L' := #[.val (.int p0), .val (.int p1), .val (.long p2), .second, .val (.int v1), .val (.int v4), .val (.int v7), .val v18, .val .null, .unset, .unset, .unset, .unset, .unset]) rfl ?_
      refine g_iloadN C X43 at_75 (q := 76) rfl rfl ?_
      refine g_iconst C X43 at_76 (q := 77) rfl (z := (5 : Int32)) rfl ?_
      refine g_iushr C X43 at_77 (q := 78) rfl (z := ((p0.toUInt32 >>> ((5 : Int32) &&& 31).toUInt32).toInt32)) rfl ?_
      refine g_iconst C X43 at_78 (q := 79) rfl (z := (3 : Int32)) rfl ?_
      obtain ⟨v56, ev56⟩ : ∃ z, (((p0.toUInt32 >>> ((5 : Int32) &&& 31).toUInt32).toInt32) &&& (3 : Int32)) = z := ⟨_, rfl⟩
      have hl57 : 0 ≤ v56.toInt := by rw [← ev56]; exact (c_and ((p0.toUInt32 >>> ((5 : Int32) &&& 31).toUInt32).toInt32) (3 : Int32) (by decide)).1
      have hh58 : v56.toInt ≤ 3 := by rw [← ev56]; exact (c_and ((p0.toUInt32 >>> ((5 : Int32) &&& 31).toUInt32).toInt32) (3 : Int32) (by decide)).2
      refine g_iand C X43 at_79 (q := 80) rfl (z := v56) ev56 ?_
      refine g_iload C X43 at_80 (q := 82) rfl rfl ?_
      refine g_iload C X43 at_82 (q := 84) rfl rfl ?_
      refine g_iload C X43 at_84 (q := 86) rfl rfl ?_
      refine gW_callS1 C X43 Y44 (own_EL hw) (y := (⟨"com/example/jetway/jetway/ValidatorsStatesVersionPinLaw", "pick", "(ICCC)Ljava/lang/String;"⟩ : MethodName)) (by decide) (w0 hw) (w1 hw) (w3 hw) (w2 hw) (rm_pick hw (p0 := v56) (p1 := v7) (p2 := v4) (p3 := v1) O48 W hl8 hh9 hl5 hh6 hl2 hh3) (W := 0) (by decide) (by decide) (k' := 18) rfl (n' := 36) rfl (by decide) (by decide) rfl pd_73 (argsL := [(.int v56), (.int v7), (.int v4), (.int v1)]) rfl (rest := []) rfl rfl rfl at_86 (q := 89) rfl ?_
      rintro v59 T60 h61 vm62 C X63 Y64 R65 ⟨K66, ho67⟩
      have O68 := O48.keep K66 all0
      have hr76 : v59.isRef = true := by rcases ho67 with q | ⟨_, _, q, -⟩ <;> rw [q] <;> rfl
      refine g_astore C X63 at_89 (q := 91) rfl hr76 (L' := #[.val (.int p0), .val (.int p1), .val (.long p2), .second, .val (.int v1), .val (.int v4), .val (.int v7), .val v18, .val .null, .val v59, .unset, .unset, .unset, .unset]) (by (cases v59 <;> first | exact absurd hr76 Bool.false_ne_true | skip) <;> rfl) ?_
      refine g_new C X63 (w4 hw) (w5 hw) (w6 hw) at_91 (q := 94) rfl (k' := 19) rfl (n' := 40) rfl (by decide) (by decide) ?_
      intro T78 h79 b77 g81 X80 E82 A83 D84
      have ge85 : n0 ≤ b77 := own_ge O68 g81
      have Y86 := Wx.ext Y64 E82
      have O87 := O68.ext E82
      have f88 : Fld Z h79 b77 "com/example/jetway/jetway/Fetcher$Validators" "lastModified" "Ljava/lang/String;" .null := D84 (Or.inr (w19 hw)) (ty := (.object "java/lang/String")) (by decide)
      have f89 : Fld Z h79 b77 "com/example/jetway/jetway/Fetcher$Validators" "entityTag" "Ljava/lang/String;" .null := D84 (Or.inr (w21 hw)) (ty := (.object "java/lang/String")) (by decide)
      have f90 : Fld Z h79 b77 "com/example/jetway/jetway/Fetcher$Validators" "length" "J" (.long (0 : Int64)) := D84 (Or.inr (w23 hw)) (ty := .long) (by decide)
      have f91 : Fld Z h79 b77 "com/example/jetway/jetway/Fetcher$Validators" "versionId" "Ljava/lang/String;" .null := D84 (Or.inr (w25 hw)) (ty := (.object "java/lang/String")) (by decide)
      refine g_dup C X80 at_94 (q := 95) rfl rfl ?_
      refine g_aload C X80 at_95 (q := 97) rfl rfl hr35 ?_
      refine g_aload C X80 at_97 (q := 99) rfl rfl rfl ?_
      refine g_lloadN C X80 at_99 (q := 100) rfl rfl ?_
      refine g_aload C X80 at_100 (q := 102) rfl rfl hr76 ?_
      refine gW_callI0 C X80 Y86 (own_EL hw) (y := (⟨"com/example/jetway/jetway/Fetcher$Validators", "<init>", "(Ljava/lang/String;Ljava/lang/String;JLjava/lang/String;)V"⟩ : MethodName)) (a := b77) (by decide) rfl rfl (w7 hw) (w8 hw) (w9 hw) (w6 hw) (rm_init_0 hw (o0 := b77) (av1 := v18) (j2 := p2) (av3 := v59) O87 W A83 f88 f89 f90 f91 ge85 hr35 hr76) (W := 1) (by decide) (by decide) (k' := 19) rfl (n' := 40) rfl (by decide) (by decide) rfl pd_97 (argsL := [v18, .null, (.long p2), v59]) rfl (rest := [(.ref b77)]) rfl rfl rfl at_102 (q := 105) rfl ?_
      rintro T92 h94 vm101 C X93 Y102 R103 ⟨K95, f96, f97, f98, f99, f100⟩
      have O104 := O87.keep K95 (allS ge85 all0)
      refine g_astore C X93 at_105 (q := 107) rfl rfl (L' := #[.val (.int p0), .val (.int p1), .val (.long p2), .second, .val (.int v1), .val (.int v4), .val (.int v7), .val v18, .val .null, .val v59, .val (.ref b77), .unset, .unset, .unset]) rfl ?_
      refine g_aload C X93 at_107 (q := 109) rfl rfl rfl ?_
      refine g_nulY C X93 at_109 (by decide) (q := 147) (by decide) ?_
      refine g_iconst C X93 at_147 (q := 148) rfl (z := (0 : Int32)) rfl ?_
      refine g_istore C X93 at_148 (q := 150) rfl (L' := #[.val (.int p0), .val (.int p1), .val (.long p2), .second, .val (.int v1), .val (.int v4), .val (.int v7), .val v18, .val .null, .val v59, .val (.ref b77), .val (.int (0 : Int32)), .unset, .unset]) rfl ?_
      refine g_aload C X93 at_150 (q := 152) rfl rfl rfl ?_
      refine g_nulY C X93 at_152 (by decide) (q := 164) (by decide) ?_
      refine g_iconst C X93 at_164 (q := 165) rfl (z := (0 : Int32)) rfl ?_
      refine g_istore C X93 at_165 (q := 167) rfl (L' := #[.val (.int p0), .val (.int p1), .val (.long p2), .second, .val (.int v1), .val (.int v4), .val (.int v7), .val v18, .val .null, .val v59, .val (.ref b77), .val (.int (0 : Int32)), .val (.int (0 : Int32)), .unset]) rfl ?_
      refine g_aload C X93 at_167 (q := 169) rfl rfl hr76 ?_
      rcases ho67 with rfl | ⟨b105, _, rfl, -⟩
      · refine g_nonN C X93 at_169 (q := 172) rfl ?_
        refine g_iload C X93 at_172 (q := 174) rfl rfl ?_
        refine g_ifN C X93 at_174 (q := 177) rfl (by decide) ?_
        refine g_aload C X93 at_177 (q := 179) rfl rfl hr35 ?_
        rcases ho26 with rfl | ⟨b106, _, rfl, -⟩
        · refine g_nulY C X93 at_179 (by decide) (q := 186) (by decide) ?_
          refine g_iconst C X93 at_186 (q := 187) rfl (z := (0 : Int32)) rfl ?_
          refine g_istore C X93 at_187 (q := 189) rfl (L' := #[.val (.int p0), .val (.int p1), .val (.long p2), .second, .val (.int v1), .val (.int v4), .val (.int v7), .val .null, .val .null, .val .null, .val (.ref b77), .val (.int (0 : Int32)), .val (.int (0 : Int32)), .val (.int (0 : Int32))]) rfl ?_
          refine g_aload C X93 at_189 (q := 191) rfl rfl rfl ?_
          refine g_callV1 C X93 (y := (⟨"com/example/jetway/jetway/Fetcher$Validators", "statesVersion", "()Z"⟩ : MethodName)) (z := (⟨"com/example/jetway/jetway/Fetcher$Validators", "statesVersion", "()Z"⟩ : MethodName)) (a := b77) (by decide) (w26 hw) (w27 hw) (w29 hw) (w28 hw) (nf_sel (w29 hw)) f96 (w30 hw) (w6 hw) (rm_st_0 hw (o0 := b77) (j1 := p2) O104 W f96 f97 f98 f99 f100 ge85) (W := 0) (by decide) (by decide) (k' := 19) rfl (n' := 40) rfl (by decide) (by decide) rfl pd_109 (argsL := []) rfl (rest := []) rfl rfl rfl at_191 (q := 194) rfl ?_
          rintro _ T107 _ X108 ⟨rfl, rfl⟩
          refine g_iload C X108 at_194 (q := 196) rfl rfl ?_
          refine g_icN C X108 at_196 (q := 199) rfl (by decide) ?_
          refine g_iconst C X108 at_199 (q := 200) rfl (z := (1 : Int32)) rfl ?_
          refine g_goto C X108 at_200 (by decide) (q := 204) (by decide) ?_
          exact gW_retN C X108 Y102 (own_EL hw) (Or.inl rfl) (z' := 1) (by decide) at_204 (by decide) (by decide) ⟨_, rfl, rfl, trivial⟩
        · refine g_nulN C X93 at_179 (q := 182) rfl ?_
          refine g_iconst C X93 at_182 (q := 183) rfl (z := (1 : Int32)) rfl ?_
          refine g_goto C X93 at_183 (by decide) (q := 187) (by decide) ?_
          refine g_istore C X93 at_187 (q := 189) rfl (L' := #[.val (.int p0), .val (.int p1), .val (.long p2), .second, .val (.int v1), .val (.int v4), .val (.int v7), .val (.ref b106), .val .null, .val .null, .val (.ref b77), .val (.int (0 : Int32)), .val (.int (0 : Int32)), .val (.int (1 : Int32))]) rfl ?_
          refine g_aload C X93 at_189 (q := 191) rfl rfl rfl ?_
          refine g_callV1 C X93 (y := (⟨"com/example/jetway/jetway/Fetcher$Validators", "statesVersion", "()Z"⟩ : MethodName)) (z := (⟨"com/example/jetway/jetway/Fetcher$Validators", "statesVersion", "()Z"⟩ : MethodName)) (a := b77) (by decide) (w26 hw) (w27 hw) (w29 hw) (w28 hw) (nf_sel (w29 hw)) f96 (w30 hw) (w6 hw) (rm_st_1 hw (o0 := b77) (o1 := b106) (j2 := p2) O104 W f96 f97 f98 f99 f100 ge85) (W := 0) (by decide) (by decide) (k' := 19) rfl (n' := 40) rfl (by decide) (by decide) rfl pd_109 (argsL := []) rfl (rest := []) rfl rfl rfl at_191 (q := 194) rfl ?_
          rintro _ T109 _ X110 ⟨rfl, rfl⟩
          refine g_iload C X110 at_194 (q := 196) rfl rfl ?_
          refine g_icN C X110 at_196 (q := 199) rfl (by decide) ?_
          refine g_iconst C X110 at_199 (q := 200) rfl (z := (1 : Int32)) rfl ?_
          refine g_goto C X110 at_200 (by decide) (q := 204) (by decide) ?_
          exact gW_retN C X110 Y102 (own_EL hw) (Or.inl rfl) (z' := 1) (by decide) at_204 (by decide) (by decide) ⟨_, rfl, rfl, trivial⟩
      · refine g_nonY C X93 at_169 (by decide) (q := 182) (by decide) ?_
        refine g_iconst C X93 at_182 (q := 183) rfl (z := (1 : Int32)) rfl ?_
        refine g_goto C X93 at_183 (by decide) (q := 187) (by decide) ?_
        refine g_istore C X93 at_187 (q := 189) rfl (L' := #[.val (.int p0), .val (.int p1), .val (.long p2), .second, .val (.int v1), .val (.int v4), .val (.int v7), .val v18, .val .null, .val (.ref b105), .val (.ref b77), .val (.int (0 : Int32)), .val (.int (0 : Int32)), .val (.int (1 : Int32))]) rfl ?_
        refine g_aload C X93 at_189 (q := 191) rfl rfl rfl ?_
        refine g_callV1 C X93 (y := (⟨"com/example/jetway/jetway/Fetcher$Validators", "statesVersion", "()Z"⟩ : MethodName)) (z := (⟨"com/example/jetway/jetway/Fetcher$Validators", "statesVersion", "()Z"⟩ : MethodName)) (a := b77) (by decide) (w26 hw) (w27 hw) (w29 hw) (w28 hw) (nf_sel (w29 hw)) f96 (w30 hw) (w6 hw) (rm_st_2 hw (o0 := b77) (av1 := v18) (j2 := p2) (o3 := b105) O104 W f96 f97 f98 f99 f100 ge85 hr35) (W := 0) (by decide) (by decide) (k' := 19) rfl (n' := 40) rfl (by decide) (by decide) rfl pd_109 (argsL := []) rfl (rest := []) rfl rfl rfl at_191 (q := 194) rfl ?_
        rintro _ T111 _ X112 ⟨rfl, rfl⟩
        refine g_iload C X112 at_194 (q := 196) rfl rfl ?_
        refine g_icN C X112 at_196 (q := 199) rfl (by decide) ?_
        refine g_iconst C X112 at_199 (q := 200) rfl (z := (1 : Int32)) rfl ?_
        refine g_goto C X112 at_200 (by decide) (q := 204) (by decide) ?_
        exact gW_retN C X112 Y102 (own_EL hw) (Or.inl rfl) (z' := 1) (by decide) at_204 (by decide) (by decide) ⟨_, rfl, rfl, trivial⟩
    · refine g_astore C X43 at_73 (q := 75) rfl rfl (L' := #[.val (.int p0), .val (.int p1), .val (.long p2), .second, .val (.int v1), .val (.int v4), .val (.int v7), .val v18, .val (.ref b49), .unset, .unset, .unset, .unset, .unset]) rfl ?_
      refine g_iloadN C X43 at_75 (q := 76) rfl rfl ?_
      refine g_iconst C X43 at_76 (q := 77) rfl (z := (5 : Int32)) rfl ?_
      refine g_iushr C X43 at_77 (q := 78) rfl (z := ((p0.toUInt32 >>> ((5 : Int32) &&& 31).toUInt32).toInt32)) rfl ?_
      refine g_iconst C X43 at_78 (q := 79) rfl (z := (3 : Int32)) rfl ?_
      obtain ⟨v113, ev113⟩ : ∃ z, (((p0.toUInt32 >>> ((5 : Int32) &&& 31).toUInt32).toInt32) &&& (3 : Int32)) = z := ⟨_, rfl⟩
      have hl114 : 0 ≤ v113.toInt := by rw [← ev113]; exact (c_and ((p0.toUInt32 >>> ((5 : Int32) &&& 31).toUInt32).toInt32) (3 : Int32) (by decide)).1
      have hh115 : v113.toInt ≤ 3 := by rw [← ev113]; exact (c_and ((p0.toUInt32 >>> ((5 : Int32) &&& 31).toUInt32).toInt32) (3 : Int32) (by decide)).2
      refine g_iand C X43 at_79 (q := 80) rfl (z := v113) ev113 ?_
      refine g_iload C X43 at_80 (q := 82) rfl rfl ?_
      refine g_iload C X43 at_82 (q := 84) rfl rfl ?_
      refine g_iload C X43 at_84 (q := 86) rfl rfl ?_
      refine gW_callS1 C X43 Y44 (own_EL hw) (y := (⟨"com/example/jetway/jetway/ValidatorsStatesVersionPinLaw", "pick", "(ICCC)Ljava/lang/String;"⟩ : MethodName)) (by decide) (w0 hw) (w1 hw) (w3 hw) (w2 hw) (rm_pick hw (p0 := v113) (p1 := v7) (p2 := v4) (p3 := v1) O48 W hl8 hh9 hl5 hh6 hl2 hh3) (W := 0) (by decide) (by decide) (k' := 18) rfl (n' := 36) rfl (by decide) (by decide) rfl pd_73 (argsL := [(.int v113), (.int v7), (.int v4), (.int v1)]) rfl (rest := []) rfl rfl rfl at_86 (q := 89) rfl ?_
      rintro v116 T117 h118 vm119 C X120 Y121 R122 ⟨K123, ho124⟩
      have O125 := O48.keep K123 all0
      have hr133 : v116.isRef = true := by rcases ho124 with q | ⟨_, _, q, -⟩ <;> rw [q] <;> rfl
      refine g_astore C X120 at_89 (q := 91) rfl hr133 (L' := #[.val (.int p0), .val (.int p1), .val (.long p2), .second, .val (.int v1), .val (.int v4), .val (.int v7), .val v18, .val (.ref b49), .val v116, .unset, .unset, .unset, .unset]) (by (cases v116 <;> first | exact absurd hr133 Bool.false_ne_true | skip) <;> rfl) ?_
      refine g_new C X120 (w4 hw) (w5 hw) (w6 hw) at_91 (q := 94) rfl (k' := 19) rfl (n' := 40) rfl (by decide) (by decide) ?_
      intro T135 h136 b134 g138 X137 E139 A140 D141
      have ge142 : n0 ≤ b134 := own_ge O125 g138
      have Y143 := Wx.ext Y121 E139
      have O144 := O125.ext E139
      have f145 : Fld Z h136 b134 "com/example/jetway/jetway/Fetcher$Validators" "lastModified" "Ljava/lang/String;" .null := D141 (Or.inr (w19 hw)) (ty := (.object "java/lang/String")) (by decide)
      have f146 : Fld Z h136 b134 "com/example/jetway/jetway/Fetcher$Validators" "entityTag" "Ljava/lang/String;" .null := D141 (Or.inr (w21 hw)) (ty := (.object "java/lang/String")) (by decide)
      have f147 : Fld Z h136 b134 "com/example/jetway/jetway/Fetcher$Validators" "length" "J" (.long (0 : Int64)) := D141 (Or.inr (w23 hw)) (ty := .long) (by decide)
      have f148 : Fld Z h136 b134 "com/example/jetway/jetway/Fetcher$Validators" "versionId" "Ljava/lang/String;" .null := D141 (Or.inr (w25 hw)) (ty := (.object "java/lang/String")) (by decide)
      refine g_dup C X137 at_94 (q := 95) rfl rfl ?_
      refine g_aload C X137 at_95 (q := 97) rfl rfl hr35 ?_
      refine g_aload C X137 at_97 (q := 99) rfl rfl rfl ?_
      refine g_lloadN C X137 at_99 (q := 100) rfl rfl ?_
      refine g_aload C X137 at_100 (q := 102) rfl rfl hr133 ?_
      have f149 := ((E53.keep K123).ext E139)
      have f150 := ((F54.keep K123 all0).ext E139)
      refine gW_callI0 C X137 Y143 (own_EL hw) (y := (⟨"com/example/jetway/jetway/Fetcher$Validators", "<init>", "(Ljava/lang/String;Ljava/lang/String;JLjava/lang/String;)V"⟩ : MethodName)) (a := b134) (by decide) rfl rfl (w7 hw) (w8 hw) (w9 hw) (w6 hw) (rm_init_1 hw (o0 := b134) (o1 := b49) (av2 := v18) (j3 := p2) (av4 := v116) O144 W A140 f145 f146 f147 f148 f149 f150 ge142 ge51 (Ne.symm (own_ne (Nat.lt_of_lt_of_le E53.lt K123.1) g138)) hr35 hr133) (W := 1) (by decide) (by decide) (k' := 21) rfl (n' := 52) rfl (by decide) (by decide) rfl pd_97 (argsL := [v18, (.ref b49), (.long p2), v116]) rfl (rest := [(.ref b134)]) rfl rfl rfl at_102 (q := 105) rfl ?_
      rintro T151 h153 vm160 C X152 Y161 R162 ⟨K154, f155, f156, f157, f158, f159⟩
      have O163 := O144.keep K154 (allS ge142 all0)
      refine g_astore C X152 at_105 (q := 107) rfl rfl (L' := #[.val (.int p0), .val (.int p1), .val (.long p2), .second, .val (.int v1), .val (.int v4), .val (.int v7), .val v18, .val (.ref b49), .val v116, .val (.ref b134), .unset, .unset, .unset]) rfl ?_
      refine g_aload C X152 at_107 (q := 109) rfl rfl rfl ?_
      refine g_nulN C X152 at_109 (q := 112) rfl ?_
      refine g_aload C X152 at_112 (q := 114) rfl rfl rfl ?_
      have f164 := (f150.keep K154 (allS (NoS.exa A140 (by decide) (w5 hw)) all0))
      refine g_strLen C X152 (own_wordsLen hw) (w32 hw) (w86 hw) (w73 hw) (w75 hw) (w74 hw) f164 (W.1.ext O163.2) W.2.1 (W := 0) (by decide) (by decide) (by decide) (by decide) rfl rfl at_114 (q := 117) rfl ?_
      intro T165 X166
      change Goes p e below _ (T165.setTop (mkF m 117 #[.val (.int p0), .val (.int p1), .val (.long p2), .second, .val (.int v1), .val (.int v4), .val (.int v7), .val v18, .val (.ref b49), .val v116, .val (.ref b134), .unset, .unset, .unset] ((.int (0 : Int32)) :: [])))
      refine g_iconst C X166 at_117 (q := 118) rfl (z := (2 : Int32)) rfl ?_
      refine g_icY C X166 at_118 (by decide) (q := 147) (by decide) (by decide) ?_
      refine g_iconst C X166 at_147 (q := 148) rfl (z := (0 : Int32)) rfl ?_
      refine g_istore C X166 at_148 (q := 150) rfl (L' := #[.val (.int p0), .val (.int p1), .val (.long p2), .second, .val (.int v1), .val (.int v4), .val (.int v7), .val v18, .val (.ref b49), .val v116, .val (.ref b134), .val (.int (0 : Int32)), .unset, .unset]) rfl ?_
      refine g_aload C X166 at_150 (q := 152) rfl rfl rfl ?_
      refine g_nulN C X166 at_152 (q := 155) rfl ?_
      refine g_iload C X166 at_155 (q := 157) rfl rfl ?_
      refine g_ifN C X166 at_157 (q := 160) rfl (by decide) ?_
      refine g_iconst C X166 at_160 (q := 161) rfl (z := (1 : Int32)) rfl ?_
      refine g_goto C X166 at_161 (by decide) (q := 165) (by decide) ?_
      refine g_istore C X166 at_165 (q := 167) rfl (L' := #[.val (.int p0), .val (.int p1), .val (.long p2), .second, .val (.int v1), .val (.int v4), .val (.int v7), .val v18, .val (.ref b49), .val v116, .val (.ref b134), .val (.int (0 : Int32)), .val (.int (1 : Int32)), .unset]) rfl ?_
      refine g_aload C X166 at_167 (q := 169) rfl rfl hr133 ?_
      rcases ho124 with rfl | ⟨b167, _, rfl, -⟩
      · refine g_nonN C X166 at_169 (q := 172) rfl ?_
        refine g_iload C X166 at_172 (q := 174) rfl rfl ?_
        refine g_ifY C X166 at_174 (by decide) (q := 182) (by decide) (by decide) ?_
        refine g_iconst C X166 at_182 (q := 183) rfl (z := (1 : Int32)) rfl ?_
        refine g_goto C X166 at_183 (by decide) (q := 187) (by decide) ?_
        refine g_istore C X166 at_187 (q := 189) rfl (L' := #[.val (.int p0), .val (.int p1), .val (.long p2), .second, .val (.int v1), .val (.int v4), .val (.int v7), .val v18, .val (.ref b49), .val .null, .val (.ref b134), .val (.int (0 : Int32)), .val (.int (1 : Int32)), .val (.int (1 : Int32))]) rfl ?_
        refine g_aload C X166 at_189 (q := 191) rfl rfl rfl ?_
        refine g_callV1 C X166 (y := (⟨"com/example/jetway/jetway/Fetcher$Validators", "statesVersion", "()Z"⟩ : MethodName)) (z := (⟨"com/example/jetway/jetway/Fetcher$Validators", "statesVersion", "()Z"⟩ : MethodName)) (a := b134) (by decide) (w26 hw) (w27 hw) (w29 hw) (w28 hw) (nf_sel (w29 hw)) f155 (w30 hw) (w6 hw) (rm_st_3 hw (o0 := b134) (av1 := v18) (o2 := b49) (j3 := p2) O163 W f155 f156 f157 f158 f159 ge142 hr35) (W := 0) (by decide) (by decide) (k' := 21) rfl (n' := 52) rfl (by decide) (by decide) rfl pd_109 (argsL := []) rfl (rest := []) rfl rfl rfl at_191 (q := 194) rfl ?_
        rintro _ T168 _ X169 ⟨rfl, rfl⟩
        refine g_iload C X169 at_194 (q := 196) rfl rfl ?_
        refine g_icN C X169 at_196 (q := 199) rfl (by decide) ?_
        refine g_iconst C X169 at_199 (q := 200) rfl (z := (1 : Int32)) rfl ?_
        refine g_goto C X169 at_200 (by decide) (q := 204) (by decide) ?_
        exact gW_retN C X169 Y161 (own_EL hw) (Or.inl rfl) (z' := 1) (by decide) at_204 (by decide) (by decide) ⟨_, rfl, rfl, trivial⟩
      · refine g_nonY C X166 at_169 (by decide) (q := 182) (by decide) ?_
        refine g_iconst C X166 at_182 (q := 183) rfl (z := (1 : Int32)) rfl ?_
        refine g_goto C X166 at_183 (by decide) (q := 187) (by decide) ?_
        refine g_istore C X166 at_187 (q := 189) rfl (L' := #[.val (.int p0), .val (.int p1), .val (.long p2), .second, .val (.int v1), .val (.int v4), .val (.int v7), .val v18, .val (.ref b49), .val (.ref b167), .val (.ref b134), .val (.int (0 : Int32)), .val (.int (1 : Int32)), .val (.int (1 : Int32))]) rfl ?_
        refine g_aload C X166 at_189 (q := 191) rfl rfl rfl ?_
        refine g_callV1 C X166 (y := (⟨"com/example/jetway/jetway/Fetcher$Validators", "statesVersion", "()Z"⟩ : MethodName)) (z := (⟨"com/example/jetway/jetway/Fetcher$Validators", "statesVersion", "()Z"⟩ : MethodName)) (a := b134) (by decide) (w26 hw) (w27 hw) (w29 hw) (w28 hw) (nf_sel (w29 hw)) f155 (w30 hw) (w6 hw) (rm_st_4 hw (o0 := b134) (av1 := v18) (o2 := b49) (j3 := p2) (o4 := b167) O163 W f155 f156 f157 f158 f159 ge142 hr35) (W := 0) (by decide) (by decide) (k' := 21) rfl (n' := 52) rfl (by decide) (by decide) rfl pd_109 (argsL := []) rfl (rest := []) rfl rfl rfl at_191 (q := 194) rfl ?_
        rintro _ T170 _ X171 ⟨rfl, rfl⟩
        refine g_iload C X171 at_194 (q := 196) rfl rfl ?_
        refine g_icN C X171 at_196 (q := 199) rfl (by decide) ?_
        refine g_iconst C X171 at_199 (q := 200) rfl (z := (1 : Int32)) rfl ?_
        refine g_goto C X171 at_200 (by decide) (q := 204) (by decide) ?_
        exact gW_retN C X171 Y161 (own_EL hw) (Or.inl rfl) (z' := 1) (by decide) at_204 (by decide) (by decide) ⟨_, rfl, rfl, trivial⟩
    · refine g_astore C X43 at_73 (q := 75) rfl rfl (L' := #[.val (.int p0), .val (.int p1), .val (.long p2), .second, .val (.int v1), .val (.int v4), .val (.int v7), .val v18, .val (.ref b49), .unset, .unset, .unset, .unset, .unset]) rfl ?_
      refine g_iloadN C X43 at_75 (q := 76) rfl rfl ?_
      refine g_iconst C X43 at_76 (q := 77) rfl (z := (5 : Int32)) rfl ?_
      refine g_iushr C X43 at_77 (q := 78) rfl (z := ((p0.toUInt32 >>> ((5 : Int32) &&& 31).toUInt32).toInt32)) rfl ?_
      refine g_iconst C X43 at_78 (q := 79) rfl (z := (3 : Int32)) rfl ?_
      obtain ⟨v172, ev172⟩ : ∃ z, (((p0.toUInt32 >>> ((5 : Int32) &&& 31).toUInt32).toInt32) &&& (3 : Int32)) = z := ⟨_, rfl⟩
      have hl173 : 0 ≤ v172.toInt := by rw [← ev172]; exact (c_and ((p0.toUInt32 >>> ((5 : Int32) &&& 31).toUInt32).toInt32) (3 : Int32) (by decide)).1
      have hh174 : v172.toInt ≤ 3 := by rw [← ev172]; exact (c_and ((p0.toUInt32 >>> ((5 : Int32) &&& 31).toUInt32).toInt32) (3 : Int32) (by decide)).2
      refine g_iand C X43 at_79 (q := 80) rfl (z := v172) ev172 ?_
      refine g_iload C X43 at_80 (q := 82) rfl rfl ?_
      refine g_iload C X43 at_82 (q := 84) rfl rfl ?_
      refine g_iload C X43 at_84 (q := 86) rfl rfl ?_
      refine gW_callS1 C X43 Y44 (own_EL hw) (y := (⟨"com/example/jetway/jetway/ValidatorsStatesVersionPinLaw", "pick", "(ICCC)Ljava/lang/String;"⟩ : MethodName)) (by decide) (w0 hw) (w1 hw) (w3 hw) (w2 hw) (rm_pick hw (p0 := v172) (p1 := v7) (p2 := v4) (p3 := v1) O48 W hl8 hh9 hl5 hh6 hl2 hh3) (W := 0) (by decide) (by decide) (k' := 18) rfl (n' := 36) rfl (by decide) (by decide) rfl pd_73 (argsL := [(.int v172), (.int v7), (.int v4), (.int v1)]) rfl (rest := []) rfl rfl rfl at_86 (q := 89) rfl ?_
      rintro v175 T176 h177 vm178 C X179 Y180 R181 ⟨K182, ho183⟩
      have O184 := O48.keep K182 all0
      have hr192 : v175.isRef = true := by rcases ho183 with q | ⟨_, _, q, -⟩ <;> rw [q] <;> rfl
      refine g_astore C X179 at_89 (q := 91) rfl hr192 (L' := #[.val (.int p0), .val (.int p1), .val (.long p2), .second, .val (.int v1), .val (.int v4), .val (.int v7), .val v18, .val (.ref b49), .val v175, .unset, .unset, .unset, .unset]) (by (cases v175 <;> first | exact absurd hr192 Bool.false_ne_true | skip) <;> rfl) ?_
      by_cases hc193 : v1 = (87 : Int32)
      · obtain rfl : v1 = (87 : Int32) := hc193
        by_cases hc195 : v4 = (47 : Int32)
        · obtain rfl : v4 = (47 : Int32) := hc195
          refine g_new C X179 (w4 hw) (w5 hw) (w6 hw) at_91 (q := 94) rfl (k' := 19) rfl (n' := 40) rfl (by decide) (by decide) ?_
          intro T198 h199 b197 g201 X200 E202 A203 D204
          have ge205 : n0 ≤ b197 := own_ge O184 g201
          have Y206 := Wx.ext Y180 E202
          have O207 := O184.ext E202
          have f208 : Fld Z h199 b197 "com/example/jetway/jetway/Fetcher$Validators" "lastModified" "Ljava/lang/String;" .null := D204 (Or.inr (w19 hw)) (ty := (.object "java/lang/String")) (by decide)
          have f209 : Fld Z h199 b197 "com/example/jetway/jetway/Fetcher$Validators" "entityTag" "Ljava/lang/String;" .null := D204 (Or.inr (w21 hw)) (ty := (.object "java/lang/String")) (by decide)
          have f210 : Fld Z h199 b197 "com/example/jetway/jetway/Fetcher$Validators" "length" "J" (.long (0 : Int64)) := D204 (Or.inr (w23 hw)) (ty := .long) (by decide)
          have f211 : Fld Z h199 b197 "com/example/jetway/jetway/Fetcher$Validators" "versionId" "Ljava/lang/String;" .null := D204 (Or.inr (w25 hw)) (ty := (.object "java/lang/String")) (by decide)
          refine g_dup C X200 at_94 (q := 95) rfl rfl ?_
          refine g_aload C X200 at_95 (q := 97) rfl rfl hr35 ?_
          refine g_aload C X200 at_97 (q := 99) rfl rfl rfl ?_
          refine g_lloadN C X200 at_99 (q := 100) rfl rfl ?_
          refine g_aload C X200 at_100 (q := 102) rfl rfl hr192 ?_
          have f212 := ((E53.keep K182).ext E202)
          have f213 := ((F54.keep K182 all0).ext E202)
          refine gW_callI0 C X200 Y206 (own_EL hw) (y := (⟨"com/example/jetway/jetway/Fetcher$Validators", "<init>", "(Ljava/lang/String;Ljava/lang/String;JLjava/lang/String;)V"⟩ : MethodName)) (a := b197) (by decide) rfl rfl (w7 hw) (w8 hw) (w9 hw) (w6 hw) (rm_init_2 hw (o0 := b197) (o1 := b49) (av2 := v18) (j3 := p2) (av4 := v175) O207 W A203 f208 f209 f210 f211 f212 f213 ge205 ge51 (Ne.symm (own_ne (Nat.lt_of_lt_of_le E53.lt K182.1) g201)) hr35 hr192) (W := 1) (by decide) (by decide) (k' := 21) rfl (n' := 52) rfl (by decide) (by decide) rfl pd_97 (argsL := [v18, (.ref b49), (.long p2), v175]) rfl (rest := [(.ref b197)]) rfl rfl rfl at_102 (q := 105) rfl ?_
          rintro T214 h216 vm223 C X215 Y224 R225 ⟨K217, f218, f219, f220, f221, f222⟩
          have O226 := O207.keep K217 (allS ge205 all0)
          refine g_astore C X215 at_105 (q := 107) rfl rfl (L' := #[.val (.int p0), .val (.int p1), .val (.long p2), .second, .val (.int (87 : Int32)), .val (.int (47 : Int32)), .val (.int v7), .val v18, .val (.ref b49), .val v175, .val (.ref b197), .unset, .unset, .unset]) rfl ?_
          refine g_aload C X215 at_107 (q := 109) rfl rfl rfl ?_
          refine g_nulN C X215 at_109 (q := 112) rfl ?_
          refine g_aload C X215 at_112 (q := 114) rfl rfl rfl ?_
          have f227 := (f213.keep K217 (allS (NoS.exa A203 (by decide) (w5 hw)) all0))
          refine g_strLen C X215 (own_wordsLen hw) (w32 hw) (w86 hw) (w73 hw) (w75 hw) (w74 hw) f227 (W.1.ext O226.2) W.2.1 (W := 0) (by decide) (by decide) (by decide) (by decide) rfl rfl at_114 (q := 117) rfl ?_
          intro T228 X229
          change Goes p e below _ (T228.setTop (mkF m 117 #[.val (.int p0), .val (.int p1), .val (.long p2), .second, .val (.int (87 : Int32)), .val (.int (47 : Int32)), .val (.int v7), .val v18, .val (.ref b49), .val v175, .val (.ref b197), .unset, .unset, .unset] ((.int (2 : Int32)) :: [])))
          refine g_iconst C X229 at_117 (q := 118) rfl (z := (2 : Int32)) rfl ?_
          refine g_icN C X229 at_118 (q := 121) rfl (by decide) ?_
          refine g_aload C X229 at_121 (q := 123) rfl rfl rfl ?_
          refine g_iconst C X229 at_123 (q := 124) rfl (z := (0 : Int32)) rfl ?_
          refine g_strChr C X229 (own_wordsChN hw) (w32 hw) (w87 hw) (w88 hw) (w90 hw) (w89 hw) f227 (W.1.ext O226.2) W.2.1 (W.2.2.1.ext O226.2) W.2.2.2 (ix := 0) (Nat.le_of_ble_eq_true rfl) rfl (w := (87 : Int32)) rfl (W := 0) (by decide) (by decide) (by decide) (by decide) rfl rfl at_124 (q := 127) rfl ?_
          intro T230 X231
          refine g_bipush C X231 at_127 (q := 129) rfl (z := (87 : Int32)) rfl ?_
          refine g_icN C X231 at_129 (q := 132) rfl (by decide) ?_
          refine g_aload C X231 at_132 (q := 134) rfl rfl rfl ?_
          refine g_iconst C X231 at_134 (q := 135) rfl (z := (1 : Int32)) rfl ?_
          refine g_strChr C X231 (own_wordsChN hw) (w32 hw) (w87 hw) (w88 hw) (w90 hw) (w89 hw) f227 (W.1.ext O226.2) W.2.1 (W.2.2.1.ext O226.2) W.2.2.2 (ix := 1) (Nat.le_of_ble_eq_true rfl) rfl (w := (47 : Int32)) rfl (W := 0) (by decide) (by decide) (by decide) (by decide) rfl rfl at_135 (q := 138) rfl ?_
          intro T232 X233
          refine g_bipush C X233 at_138 (q := 140) rfl (z := (47 : Int32)) rfl ?_
          refine g_icN C X233 at_140 (q := 143) rfl (by decide) ?_
          refine g_iconst C X233 at_143 (q := 144) rfl (z := (1 : Int32)) rfl ?_
          refine g_goto C X233 at_144 (by decide) (q := 148) (by decide) ?_
          refine g_istore C X233 at_148 (q := 150) rfl (L' := #[.val (.int p0), .val (.int p1), .val (.long p2), .second, .val (.int (87 : Int32)), .val (.int (47 : Int32)), .val (.int v7), .val v18, .val (.ref b49), .val v175, .val (.ref b197), .val (.int (1 : Int32)), .unset, .unset]) rfl ?_
          refine g_aload C X233 at_150 (q := 152) rfl rfl rfl ?_
          refine g_nulN C X233 at_152 (q := 155) rfl ?_
          refine g_iload C X233 at_155 (q := 157) rfl rfl ?_
          refine g_ifY C X233 at_157 (by decide) (q := 164) (by decide) (by decide) ?_
          refine g_iconst C X233 at_164 (q := 165) rfl (z := (0 : Int32)) rfl ?_
          refine g_istore C X233 at_165 (q := 167) rfl (L' := #[.val (.int p0), .val (.int p1), .val (.long p2), .second, .val (.int (87 : Int32)), .val (.int (47 : Int32)), .val (.int v7), .val v18, .val (.ref b49), .val v175, .val (.ref b197), .val (.int (1 : Int32)), .val (.int (0 : Int32)), .unset]) rfl ?_
          refine g_aload C X233 at_167 (q := 169) rfl rfl hr192 ?_
          rcases ho183 with rfl | ⟨b234, _, rfl, -⟩
          · refine g_nonN C X233 at_169 (q := 172) rfl ?_
            refine g_iload C X233 at_172 (q := 174) rfl rfl ?_
            refine g_ifN C X233 at_174 (q := 177) rfl (by decide) ?_
            refine g_aload C X233 at_177 (q := 179) rfl rfl hr35 ?_
            rcases ho26 with rfl | ⟨b235, _, rfl, -⟩
            · refine g_nulY C X233 at_179 (by decide) (q := 186) (by decide) ?_
              refine g_iconst C X233 at_186 (q := 187) rfl (z := (0 : Int32)) rfl ?_
              refine g_istore C X233 at_187 (q := 189) rfl (L' := #[.val (.int p0), .val (.int p1), .val (.long p2), .second, .val (.int (87 : Int32)), .val (.int (47 : Int32)), .val (.int v7), .val .null, .val (.ref b49), .val .null, .val (.ref b197), .val (.int (1 : Int32)), .val (.int (0 : Int32)), .val (.int (0 : Int32))]) rfl ?_
              refine g_aload C X233 at_189 (q := 191) rfl rfl rfl ?_
              refine g_callV1 C X233 (y := (⟨"com/example/jetway/jetway/Fetcher$Validators", "statesVersion", "()Z"⟩ : MethodName)) (z := (⟨"com/example/jetway/jetway/Fetcher$Validators", "statesVersion", "()Z"⟩ : MethodName)) (a := b197) (by decide) (w26 hw) (w27 hw) (w29 hw) (w28 hw) (nf_sel (w29 hw)) f218 (w30 hw) (w6 hw) (rm_st_0 hw (o0 := b197) (j1 := p2) O226 W f218 f219 f220 f221 f222 ge205) (W := 0) (by decide) (by decide) (k' := 21) rfl (n' := 52) rfl (by decide) (by decide) rfl pd_109 (argsL := []) rfl (rest := []) rfl rfl rfl at_191 (q := 194) rfl ?_
              rintro _ T236 _ X237 ⟨rfl, rfl⟩
              refine g_iload C X237 at_194 (q := 196) rfl rfl ?_
              refine g_icN C X237 at_196 (q := 199) rfl (by decide) ?_
              refine g_iconst C X237 at_199 (q := 200) rfl (z := (1 : Int32)) rfl ?_
              refine g_goto C X237 at_200 (by decide) (q := 204) (by decide) ?_
              exact gW_retN C X237 Y224 (own_EL hw) (Or.inl rfl) (z' := 1) (by decide) at_204 (by decide) (by decide) ⟨_, rfl, rfl, trivial⟩
            · refine g_nulN C X233 at_179 (q := 182) rfl ?_
              refine g_iconst C X233 at_182 (q := 183) rfl (z := (1 : Int32)) rfl ?_
              refine g_goto C X233 at_183 (by decide) (q := 187) (by decide) ?_
              refine g_istore C X233 at_187 (q := 189) rfl (L' := #[.val (.int p0), .val (.int p1), .val (.long p2), .second, .val (.int (87 : Int32)), .val (.int (47 : Int32)), .val (.int v7), .val (.ref b235), .val (.ref b49), .val .null, .val (.ref b197), .val (.int (1 : Int32)), .val (.int (0 : Int32)), .val (.int (1 : Int32))]) rfl ?_
              refine g_aload C X233 at_189 (q := 191) rfl rfl rfl ?_
              refine g_callV1 C X233 (y := (⟨"com/example/jetway/jetway/Fetcher$Validators", "statesVersion", "()Z"⟩ : MethodName)) (z := (⟨"com/example/jetway/jetway/Fetcher$Validators", "statesVersion", "()Z"⟩ : MethodName)) (a := b197) (by decide) (w26 hw) (w27 hw) (w29 hw) (w28 hw) (nf_sel (w29 hw)) f218 (w30 hw) (w6 hw) (rm_st_1 hw (o0 := b197) (o1 := b235) (j2 := p2) O226 W f218 f219 f220 f221 f222 ge205) (W := 0) (by decide) (by decide) (k' := 21) rfl (n' := 52) rfl (by decide) (by decide) rfl pd_109 (argsL := []) rfl (rest := []) rfl rfl rfl at_191 (q := 194) rfl ?_
              rintro _ T238 _ X239 ⟨rfl, rfl⟩
              refine g_iload C X239 at_194 (q := 196) rfl rfl ?_
              refine g_icN C X239 at_196 (q := 199) rfl (by decide) ?_
              refine g_iconst C X239 at_199 (q := 200) rfl (z := (1 : Int32)) rfl ?_
              refine g_goto C X239 at_200 (by decide) (q := 204) (by decide) ?_
              exact gW_retN C X239 Y224 (own_EL hw) (Or.inl rfl) (z' := 1) (by decide) at_204 (by decide) (by decide) ⟨_, rfl, rfl, trivial⟩
          · refine g_nonY C X233 at_169 (by decide) (q := 182) (by decide) ?_
            refine g_iconst C X233 at_182 (q := 183) rfl (z := (1 : Int32)) rfl ?_
            refine g_goto C X233 at_183 (by decide) (q := 187) (by decide) ?_
            refine g_istore C X233 at_187 (q := 189) rfl (L' := #[.val (.int p0), .val (.int p1), .val (.long p2), .second, .val (.int (87 : Int32)), .val (.int (47 : Int32)), .val (.int v7), .val v18, .val (.ref b49), .val (.ref b234), .val (.ref b197), .val (.int (1 : Int32)), .val (.int (0 : Int32)), .val (.int (1 : Int32))]) rfl ?_
            refine g_aload C X233 at_189 (q := 191) rfl rfl rfl ?_
            refine g_callV1 C X233 (y := (⟨"com/example/jetway/jetway/Fetcher$Validators", "statesVersion", "()Z"⟩ : MethodName)) (z := (⟨"com/example/jetway/jetway/Fetcher$Validators", "statesVersion", "()Z"⟩ : MethodName)) (a := b197) (by decide) (w26 hw) (w27 hw) (w29 hw) (w28 hw) (nf_sel (w29 hw)) f218 (w30 hw) (w6 hw) (rm_st_2 hw (o0 := b197) (av1 := v18) (j2 := p2) (o3 := b234) O226 W f218 f219 f220 f221 f222 ge205 hr35) (W := 0) (by decide) (by decide) (k' := 21) rfl (n' := 52) rfl (by decide) (by decide) rfl pd_109 (argsL := []) rfl (rest := []) rfl rfl rfl at_191 (q := 194) rfl ?_
            rintro _ T240 _ X241 ⟨rfl, rfl⟩
            refine g_iload C X241 at_194 (q := 196) rfl rfl ?_
            refine g_icN C X241 at_196 (q := 199) rfl (by decide) ?_
            refine g_iconst C X241 at_199 (q := 200) rfl (z := (1 : Int32)) rfl ?_
            refine g_goto C X241 at_200 (by decide) (q := 204) (by decide) ?_
            exact gW_retN C X241 Y224 (own_EL hw) (Or.inl rfl) (z' := 1) (by decide) at_204 (by decide) (by decide) ⟨_, rfl, rfl, trivial⟩
        · refine g_new C X179 (w4 hw) (w5 hw) (w6 hw) at_91 (q := 94) rfl (k' := 19) rfl (n' := 40) rfl (by decide) (by decide) ?_
          intro T244 h245 b243 g247 X246 E248 A249 D250
          have ge251 : n0 ≤ b243 := own_ge O184 g247
          have Y252 := Wx.ext Y180 E248
          have O253 := O184.ext E248
          have f254 : Fld Z h245 b243 "com/example/jetway/jetway/Fetcher$Validators" "lastModified" "Ljava/lang/String;" .null := D250 (Or.inr (w19 hw)) (ty := (.object "java/lang/String")) (by decide)
          have f255 : Fld Z h245 b243 "com/example/jetway/jetway/Fetcher$Validators" "entityTag" "Ljava/lang/String;" .null := D250 (Or.inr (w21 hw)) (ty := (.object "java/lang/String")) (by decide)
          have f256 : Fld Z h245 b243 "com/example/jetway/jetway/Fetcher$Validators" "length" "J" (.long (0 : Int64)) := D250 (Or.inr (w23 hw)) (ty := .long) (by decide)
          have f257 : Fld Z h245 b243 "com/example/jetway/jetway/Fetcher$Validators" "versionId" "Ljava/lang/String;" .null := D250 (Or.inr (w25 hw)) (ty := (.object "java/lang/String")) (by decide)
          refine g_dup C X246 at_94 (q := 95) rfl rfl ?_
          refine g_aload C X246 at_95 (q := 97) rfl rfl hr35 ?_
          refine g_aload C X246 at_97 (q := 99) rfl rfl rfl ?_
          refine g_lloadN C X246 at_99 (q := 100) rfl rfl ?_
          refine g_aload C X246 at_100 (q := 102) rfl rfl hr192 ?_
          have f258 := ((E53.keep K182).ext E248)
          have f259 := ((F54.keep K182 all0).ext E248)
          refine gW_callI0 C X246 Y252 (own_EL hw) (y := (⟨"com/example/jetway/jetway/Fetcher$Validators", "<init>", "(Ljava/lang/String;Ljava/lang/String;JLjava/lang/String;)V"⟩ : MethodName)) (a := b243) (by decide) rfl rfl (w7 hw) (w8 hw) (w9 hw) (w6 hw) (rm_init_3 hw (o0 := b243) (o1 := b49) (i2 := v4) (av3 := v18) (j4 := p2) (av5 := v175) O253 W A249 f254 f255 f256 f257 f258 f259 ge251 ge51 (Ne.symm (own_ne (Nat.lt_of_lt_of_le E53.lt K182.1) g247)) hr35 hr192 hl5 hh6 hc195) (W := 1) (by decide) (by decide) (k' := 21) rfl (n' := 52) rfl (by decide) (by decide) rfl pd_97 (argsL := [v18, (.ref b49), (.long p2), v175]) rfl (rest := [(.ref b243)]) rfl rfl rfl at_102 (q := 105) rfl ?_
          rintro T260 h262 vm269 C X261 Y270 R271 ⟨K263, f264, f265, f266, f267, f268⟩
          have O272 := O253.keep K263 (allS ge251 all0)
          refine g_astore C X261 at_105 (q := 107) rfl rfl (L' := #[.val (.int p0), .val (.int p1), .val (.long p2), .second, .val (.int (87 : Int32)), .val (.int v4), .val (.int v7), .val v18, .val (.ref b49), .val v175, .val (.ref b243), .unset, .unset, .unset]) rfl ?_
          refine g_aload C X261 at_107 (q := 109) rfl rfl rfl ?_
          refine g_nulN C X261 at_109 (q := 112) rfl ?_
          refine g_aload C X261 at_112 (q := 114) rfl rfl rfl ?_
          have f273 := (f259.keep K263 (allS (NoS.exa A249 (by decide) (w5 hw)) all0))
          refine g_strLen C X261 (own_wordsLen hw) (w32 hw) (w86 hw) (w73 hw) (w75 hw) (w74 hw) f273 (W.1.ext O272.2) W.2.1 (W := 0) (by decide) (by decide) (by decide) (by decide) rfl rfl at_114 (q := 117) rfl ?_
          intro T274 X275
          change Goes p e below _ (T274.setTop (mkF m 117 #[.val (.int p0), .val (.int p1), .val (.long p2), .second, .val (.int (87 : Int32)), .val (.int v4), .val (.int v7), .val v18, .val (.ref b49), .val v175, .val (.ref b243), .unset, .unset, .unset] ((.int (2 : Int32)) :: [])))
          refine g_iconst C X275 at_117 (q := 118) rfl (z := (2 : Int32)) rfl ?_
          refine g_icN C X275 at_118 (q := 121) rfl (by decide) ?_
          refine g_aload C X275 at_121 (q := 123) rfl rfl rfl ?_
          refine g_iconst C X275 at_123 (q := 124) rfl (z := (0 : Int32)) rfl ?_
          refine g_strChr C X275 (own_wordsChN hw) (w32 hw) (w87 hw) (w88 hw) (w90 hw) (w89 hw) f273 (W.1.ext O272.2) W.2.1 (W.2.2.1.ext O272.2) W.2.2.2 (ix := 0) (Nat.le_of_ble_eq_true rfl) rfl (w := (87 : Int32)) rfl (W := 0) (by decide) (by decide) (by decide) (by decide) rfl rfl at_124 (q := 127) rfl ?_
          intro T276 X277
          refine g_bipush C X277 at_127 (q := 129) rfl (z := (87 : Int32)) rfl ?_
          refine g_icN C X277 at_129 (q := 132) rfl (by decide) ?_
          refine g_aload C X277 at_132 (q := 134) rfl rfl rfl ?_
          refine g_iconst C X277 at_134 (q := 135) rfl (z := (1 : Int32)) rfl ?_
          refine g_strChr C X277 (own_wordsChN hw) (w32 hw) (w87 hw) (w88 hw) (w90 hw) (w89 hw) f273 (W.1.ext O272.2) W.2.1 (W.2.2.1.ext O272.2) W.2.2.2 (ix := 1) (Nat.le_of_ble_eq_true rfl) rfl (w := v4) rfl (W := 0) (by decide) (by decide) (by decide) (by decide) rfl rfl at_135 (q := 138) rfl ?_
          intro T278 X279
          refine g_bipush C X279 at_138 (q := 140) rfl (z := (47 : Int32)) rfl ?_
          refine g_icY C X279 at_140 (by decide) (q := 147) (by decide) (feq hc195).2 ?_
          refine g_iconst C X279 at_147 (q := 148) rfl (z := (0 : Int32)) rfl ?_
          refine g_istore C X279 at_148 (q := 150) rfl (L' := #[.val (.int p0), .val (.int p1), .val (.long p2), .second, .val (.int (87 : Int32)), .val (.int v4), .val (.int v7), .val v18, .val (.ref b49), .val v175, .val (.ref b243), .val (.int (0 : Int32)), .unset, .unset]) rfl ?_
          refine g_aload C X279 at_150 (q := 152) rfl rfl rfl ?_
          refine g_nulN C X279 at_152 (q := 155) rfl ?_
          refine g_iload C X279 at_155 (q := 157) rfl rfl ?_
          refine g_ifN C X279 at_157 (q := 160) rfl (by decide) ?_
          refine g_iconst C X279 at_160 (q := 161) rfl (z := (1 : Int32)) rfl ?_
          refine g_goto C X279 at_161 (by decide) (q := 165) (by decide) ?_
          refine g_istore C X279 at_165 (q := 167) rfl (L' := #[.val (.int p0), .val (.int p1), .val (.long p2), .second, .val (.int (87 : Int32)), .val (.int v4), .val (.int v7), .val v18, .val (.ref b49), .val v175, .val (.ref b243), .val (.int (0 : Int32)), .val (.int (1 : Int32)), .unset]) rfl ?_
          refine g_aload C X279 at_167 (q := 169) rfl rfl hr192 ?_
          rcases ho183 with rfl | ⟨b280, _, rfl, -⟩
          · refine g_nonN C X279 at_169 (q := 172) rfl ?_
            refine g_iload C X279 at_172 (q := 174) rfl rfl ?_
            refine g_ifY C X279 at_174 (by decide) (q := 182) (by decide) (by decide) ?_
            refine g_iconst C X279 at_182 (q := 183) rfl (z := (1 : Int32)) rfl ?_
            refine g_goto C X279 at_183 (by decide) (q := 187) (by decide) ?_
            refine g_istore C X279 at_187 (q := 189) rfl (L' := #[.val (.int p0), .val (.int p1), .val (.long p2), .second, .val (.int (87 : Int32)), .val (.int v4), .val (.int v7), .val v18, .val (.ref b49), .val .null, .val (.ref b243), .val (.int (0 : Int32)), .val (.int (1 : Int32)), .val (.int (1 : Int32))]) rfl ?_
            refine g_aload C X279 at_189 (q := 191) rfl rfl rfl ?_
            refine g_callV1 C X279 (y := (⟨"com/example/jetway/jetway/Fetcher$Validators", "statesVersion", "()Z"⟩ : MethodName)) (z := (⟨"com/example/jetway/jetway/Fetcher$Validators", "statesVersion", "()Z"⟩ : MethodName)) (a := b243) (by decide) (w26 hw) (w27 hw) (w29 hw) (w28 hw) (nf_sel (w29 hw)) f264 (w30 hw) (w6 hw) (rm_st_3 hw (o0 := b243) (av1 := v18) (o2 := b49) (j3 := p2) O272 W f264 f265 f266 f267 f268 ge251 hr35) (W := 0) (by decide) (by decide) (k' := 21) rfl (n' := 52) rfl (by decide) (by decide) rfl pd_109 (argsL := []) rfl (rest := []) rfl rfl rfl at_191 (q := 194) rfl ?_
            rintro _ T281 _ X282 ⟨rfl, rfl⟩
            refine g_iload C X282 at_194 (q := 196) rfl rfl ?_
            refine g_icN C X282 at_196 (q := 199) rfl (by decide) ?_
            refine g_iconst C X282 at_199 (q := 200) rfl (z := (1 : Int32)) rfl ?_
            refine g_goto C X282 at_200 (by decide) (q := 204) (by decide) ?_
            exact gW_retN C X282 Y270 (own_EL hw) (Or.inl rfl) (z' := 1) (by decide) at_204 (by decide) (by decide) ⟨_, rfl, rfl, trivial⟩
          · refine g_nonY C X279 at_169 (by decide) (q := 182) (by decide) ?_
            refine g_iconst C X279 at_182 (q := 183) rfl (z := (1 : Int32)) rfl ?_
            refine g_goto C X279 at_183 (by decide) (q := 187) (by decide) ?_
            refine g_istore C X279 at_187 (q := 189) rfl (L' := #[.val (.int p0), .val (.int p1), .val (.long p2), .second, .val (.int (87 : Int32)), .val (.int v4), .val (.int v7), .val v18, .val (.ref b49), .val (.ref b280), .val (.ref b243), .val (.int (0 : Int32)), .val (.int (1 : Int32)), .val (.int (1 : Int32))]) rfl ?_
            refine g_aload C X279 at_189 (q := 191) rfl rfl rfl ?_
            refine g_callV1 C X279 (y := (⟨"com/example/jetway/jetway/Fetcher$Validators", "statesVersion", "()Z"⟩ : MethodName)) (z := (⟨"com/example/jetway/jetway/Fetcher$Validators", "statesVersion", "()Z"⟩ : MethodName)) (a := b243) (by decide) (w26 hw) (w27 hw) (w29 hw) (w28 hw) (nf_sel (w29 hw)) f264 (w30 hw) (w6 hw) (rm_st_4 hw (o0 := b243) (av1 := v18) (o2 := b49) (j3 := p2) (o4 := b280) O272 W f264 f265 f266 f267 f268 ge251 hr35) (W := 0) (by decide) (by decide) (k' := 21) rfl (n' := 52) rfl (by decide) (by decide) rfl pd_109 (argsL := []) rfl (rest := []) rfl rfl rfl at_191 (q := 194) rfl ?_
            rintro _ T283 _ X284 ⟨rfl, rfl⟩
            refine g_iload C X284 at_194 (q := 196) rfl rfl ?_
            refine g_icN C X284 at_196 (q := 199) rfl (by decide) ?_
            refine g_iconst C X284 at_199 (q := 200) rfl (z := (1 : Int32)) rfl ?_
            refine g_goto C X284 at_200 (by decide) (q := 204) (by decide) ?_
            exact gW_retN C X284 Y270 (own_EL hw) (Or.inl rfl) (z' := 1) (by decide) at_204 (by decide) (by decide) ⟨_, rfl, rfl, trivial⟩
      · refine g_new C X179 (w4 hw) (w5 hw) (w6 hw) at_91 (q := 94) rfl (k' := 19) rfl (n' := 40) rfl (by decide) (by decide) ?_
        intro T287 h288 b286 g290 X289 E291 A292 D293
        have ge294 : n0 ≤ b286 := own_ge O184 g290
        have Y295 := Wx.ext Y180 E291
        have O296 := O184.ext E291
        have f297 : Fld Z h288 b286 "com/example/jetway/jetway/Fetcher$Validators" "lastModified" "Ljava/lang/String;" .null := D293 (Or.inr (w19 hw)) (ty := (.object "java/lang/String")) (by decide)
        have f298 : Fld Z h288 b286 "com/example/jetway/jetway/Fetcher$Validators" "entityTag" "Ljava/lang/String;" .null := D293 (Or.inr (w21 hw)) (ty := (.object "java/lang/String")) (by decide)
        have f299 : Fld Z h288 b286 "com/example/jetway/jetway/Fetcher$Validators" "length" "J" (.long (0 : Int64)) := D293 (Or.inr (w23 hw)) (ty := .long) (by decide)
        have f300 : Fld Z h288 b286 "com/example/jetway/jetway/Fetcher$Validators" "versionId" "Ljava/lang/String;" .null := D293 (Or.inr (w25 hw)) (ty := (.object "java/lang/String")) (by decide)
        refine g_dup C X289 at_94 (q := 95) rfl rfl ?_
        refine g_aload C X289 at_95 (q := 97) rfl rfl hr35 ?_
        refine g_aload C X289 at_97 (q := 99) rfl rfl rfl ?_
        refine g_lloadN C X289 at_99 (q := 100) rfl rfl ?_
        refine g_aload C X289 at_100 (q := 102) rfl rfl hr192 ?_
        have f301 := ((E53.keep K182).ext E291)
        have f302 := ((F54.keep K182 all0).ext E291)
        refine gW_callI0 C X289 Y295 (own_EL hw) (y := (⟨"com/example/jetway/jetway/Fetcher$Validators", "<init>", "(Ljava/lang/String;Ljava/lang/String;JLjava/lang/String;)V"⟩ : MethodName)) (a := b286) (by decide) rfl rfl (w7 hw) (w8 hw) (w9 hw) (w6 hw) (rm_init_4 hw (o0 := b286) (o1 := b49) (i2 := v1) (i3 := v4) (av4 := v18) (j5 := p2) (av6 := v175) O296 W A292 f297 f298 f299 f300 f301 f302 ge294 ge51 (Ne.symm (own_ne (Nat.lt_of_lt_of_le E53.lt K182.1) g290)) hr35 hr192 hl2 hh3 hc193 hl5 hh6) (W := 1) (by decide) (by decide) (k' := 21) rfl (n' := 52) rfl (by decide) (by decide) rfl pd_97 (argsL := [v18, (.ref b49), (.long p2), v175]) rfl (rest := [(.ref b286)]) rfl rfl rfl at_102 (q := 105) rfl ?_
        rintro T303 h305 vm312 C X304 Y313 R314 ⟨K306, f307, f308, f309, f310, f311⟩
        have O315 := O296.keep K306 (allS ge294 all0)
        refine g_astore C X304 at_105 (q := 107) rfl rfl (L' := #[.val (.int p0), .val (.int p1), .val (.long p2), .second, .val (.int v1), .val (.int v4), .val (.int v7), .val v18, .val (.ref b49), .val v175, .val (.ref b286), .unset, .unset, .unset]) rfl ?_
        refine g_aload C X304 at_107 (q := 109) rfl rfl rfl ?_
        refine g_nulN C X304 at_109 (q := 112) rfl ?_
        refine g_aload C X304 at_112 (q := 114) rfl rfl rfl ?_
        have f316 := (f302.keep K306 (allS (NoS.exa A292 (by decide) (w5 hw)) all0))
        refine g_strLen C X304 (own_wordsLen hw) (w32 hw) (w86 hw) (w73 hw) (w75 hw) (w74 hw) f316 (W.1.ext O315.2) W.2.1 (W := 0) (by decide) (by decide) (by decide) (by decide) rfl rfl at_114 (q := 117) rfl ?_
        intro T317 X318
        change Goes p e below _ (T317.setTop (mkF m 117 #[.val (.int p0), .val (.int p1), .val (.long p2), .second, .val (.int v1), .val (.int v4), .val (.int v7), .val v18, .val (.ref b49), .val v175, .val (.ref b286), .unset, .unset, .unset] ((.int (2 : Int32)) :: [])))
        refine g_iconst C X318 at_117 (q := 118) rfl (z := (2 : Int32)) rfl ?_
        refine g_icN C X318 at_118 (q := 121) rfl (by decide) ?_
        refine g_aload C X318 at_121 (q := 123) rfl rfl rfl ?_
        refine g_iconst C X318 at_123 (q := 124) rfl (z := (0 : Int32)) rfl ?_
        refine g_strChr C X318 (own_wordsChN hw) (w32 hw) (w87 hw) (w88 hw) (w90 hw) (w89 hw) f316 (W.1.ext O315.2) W.2.1 (W.2.2.1.ext O315.2) W.2.2.2 (ix := 0) (Nat.le_of_ble_eq_true rfl) rfl (w := v1) rfl (W := 0) (by decide) (by decide) (by decide) (by decide) rfl rfl at_124 (q := 127) rfl ?_
        intro T319 X320
        refine g_bipush C X320 at_127 (q := 129) rfl (z := (87 : Int32)) rfl ?_
        refine g_icY C X320 at_129 (by decide) (q := 147) (by decide) (feq hc193).2 ?_
        refine g_iconst C X320 at_147 (q := 148) rfl (z := (0 : Int32)) rfl ?_
        refine g_istore C X320 at_148 (q := 150) rfl (L' := #[.val (.int p0), .val (.int p1), .val (.long p2), .second, .val (.int v1), .val (.int v4), .val (.int v7), .val v18, .val (.ref b49), .val v175, .val (.ref b286), .val (.int (0 : Int32)), .unset, .unset]) rfl ?_
        refine g_aload C X320 at_150 (q := 152) rfl rfl rfl ?_
        refine g_nulN C X320 at_152 (q := 155) rfl ?_
        refine g_iload C X320 at_155 (q := 157) rfl rfl ?_
        refine g_ifN C X320 at_157 (q := 160) rfl (by decide) ?_
        refine g_iconst C X320 at_160 (q := 161) rfl (z := (1 : Int32)) rfl ?_
        refine g_goto C X320 at_161 (by decide) (q := 165) (by decide) ?_
        refine g_istore C X320 at_165 (q := 167) rfl (L' := #[.val (.int p0), .val (.int p1), .val (.long p2), .second, .val (.int v1), .val (.int v4), .val (.int v7), .val v18, .val (.ref b49), .val v175, .val (.ref b286), .val (.int (0 : Int32)), .val (.int (1 : Int32)), .unset]) rfl ?_
        refine g_aload C X320 at_167 (q := 169) rfl rfl hr192 ?_
        rcases ho183 with rfl | ⟨b321, _, rfl, -⟩
        · refine g_nonN C X320 at_169 (q := 172) rfl ?_
          refine g_iload C X320 at_172 (q := 174) rfl rfl ?_
          refine g_ifY C X320 at_174 (by decide) (q := 182) (by decide) (by decide) ?_
          refine g_iconst C X320 at_182 (q := 183) rfl (z := (1 : Int32)) rfl ?_
          refine g_goto C X320 at_183 (by decide) (q := 187) (by decide) ?_
          refine g_istore C X320 at_187 (q := 189) rfl (L' := #[.val (.int p0), .val (.int p1), .val (.long p2), .second, .val (.int v1), .val (.int v4), .val (.int v7), .val v18, .val (.ref b49), .val .null, .val (.ref b286), .val (.int (0 : Int32)), .val (.int (1 : Int32)), .val (.int (1 : Int32))]) rfl ?_
          refine g_aload C X320 at_189 (q := 191) rfl rfl rfl ?_
          refine g_callV1 C X320 (y := (⟨"com/example/jetway/jetway/Fetcher$Validators", "statesVersion", "()Z"⟩ : MethodName)) (z := (⟨"com/example/jetway/jetway/Fetcher$Validators", "statesVersion", "()Z"⟩ : MethodName)) (a := b286) (by decide) (w26 hw) (w27 hw) (w29 hw) (w28 hw) (nf_sel (w29 hw)) f307 (w30 hw) (w6 hw) (rm_st_3 hw (o0 := b286) (av1 := v18) (o2 := b49) (j3 := p2) O315 W f307 f308 f309 f310 f311 ge294 hr35) (W := 0) (by decide) (by decide) (k' := 21) rfl (n' := 52) rfl (by decide) (by decide) rfl pd_109 (argsL := []) rfl (rest := []) rfl rfl rfl at_191 (q := 194) rfl ?_
          rintro _ T322 _ X323 ⟨rfl, rfl⟩
          refine g_iload C X323 at_194 (q := 196) rfl rfl ?_
          refine g_icN C X323 at_196 (q := 199) rfl (by decide) ?_
          refine g_iconst C X323 at_199 (q := 200) rfl (z := (1 : Int32)) rfl ?_
          refine g_goto C X323 at_200 (by decide) (q := 204) (by decide) ?_
          exact gW_retN C X323 Y313 (own_EL hw) (Or.inl rfl) (z' := 1) (by decide) at_204 (by decide) (by decide) ⟨_, rfl, rfl, trivial⟩
        · refine g_nonY C X320 at_169 (by decide) (q := 182) (by decide) ?_
          refine g_iconst C X320 at_182 (q := 183) rfl (z := (1 : Int32)) rfl ?_
          refine g_goto C X320 at_183 (by decide) (q := 187) (by decide) ?_
          refine g_istore C X320 at_187 (q := 189) rfl (L' := #[.val (.int p0), .val (.int p1), .val (.long p2), .second, .val (.int v1), .val (.int v4), .val (.int v7), .val v18, .val (.ref b49), .val (.ref b321), .val (.ref b286), .val (.int (0 : Int32)), .val (.int (1 : Int32)), .val (.int (1 : Int32))]) rfl ?_
          refine g_aload C X320 at_189 (q := 191) rfl rfl rfl ?_
          refine g_callV1 C X320 (y := (⟨"com/example/jetway/jetway/Fetcher$Validators", "statesVersion", "()Z"⟩ : MethodName)) (z := (⟨"com/example/jetway/jetway/Fetcher$Validators", "statesVersion", "()Z"⟩ : MethodName)) (a := b286) (by decide) (w26 hw) (w27 hw) (w29 hw) (w28 hw) (nf_sel (w29 hw)) f307 (w30 hw) (w6 hw) (rm_st_4 hw (o0 := b286) (av1 := v18) (o2 := b49) (j3 := p2) (o4 := b321) O315 W f307 f308 f309 f310 f311 ge294 hr35) (W := 0) (by decide) (by decide) (k' := 21) rfl (n' := 52) rfl (by decide) (by decide) rfl pd_109 (argsL := []) rfl (rest := []) rfl rfl rfl at_191 (q := 194) rfl ?_
          rintro _ T324 _ X325 ⟨rfl, rfl⟩
          refine g_iload C X325 at_194 (q := 196) rfl rfl ?_
          refine g_icN C X325 at_196 (q := 199) rfl (by decide) ?_
          refine g_iconst C X325 at_199 (q := 200) rfl (z := (1 : Int32)) rfl ?_
          refine g_goto C X325 at_200 (by decide) (q := 204) (by decide) ?_
          exact gW_retN C X325 Y313 (own_EL hw) (Or.inl rfl) (z' := 1) (by decide) at_204 (by decide) (by decide) ⟨_, rfl, rfl, trivial⟩
    · refine g_astore C X43 at_73 (q := 75) rfl rfl (L' := #[.val (.int p0), .val (.int p1), .val (.long p2), .second, .val (.int v1), .val (.int v4), .val (.int v7), .val v18, .val (.ref b49), .unset, .unset, .unset, .unset, .unset]) rfl ?_
      refine g_iloadN C X43 at_75 (q := 76) rfl rfl ?_
      refine g_iconst C X43 at_76 (q := 77) rfl (z := (5 : Int32)) rfl ?_
      refine g_iushr C X43 at_77 (q := 78) rfl (z := ((p0.toUInt32 >>> ((5 : Int32) &&& 31).toUInt32).toInt32)) rfl ?_
      refine g_iconst C X43 at_78 (q := 79) rfl (z := (3 : Int32)) rfl ?_
      obtain ⟨v326, ev326⟩ : ∃ z, (((p0.toUInt32 >>> ((5 : Int32) &&& 31).toUInt32).toInt32) &&& (3 : Int32)) = z := ⟨_, rfl⟩
      have hl327 : 0 ≤ v326.toInt := by rw [← ev326]; exact (c_and ((p0.toUInt32 >>> ((5 : Int32) &&& 31).toUInt32).toInt32) (3 : Int32) (by decide)).1
      have hh328 : v326.toInt ≤ 3 := by rw [← ev326]; exact (c_and ((p0.toUInt32 >>> ((5 : Int32) &&& 31).toUInt32).toInt32) (3 : Int32) (by decide)).2
      refine g_iand C X43 at_79 (q := 80) rfl (z := v326) ev326 ?_
      refine g_iload C X43 at_80 (q := 82) rfl rfl ?_
      refine g_iload C X43 at_82 (q := 84) rfl rfl ?_
      refine g_iload C X43 at_84 (q := 86) rfl rfl ?_
      refine gW_callS1 C X43 Y44 (own_EL hw) (y := (⟨"com/example/jetway/jetway/ValidatorsStatesVersionPinLaw", "pick", "(ICCC)Ljava/lang/String;"⟩ : MethodName)) (by decide) (w0 hw) (w1 hw) (w3 hw) (w2 hw) (rm_pick hw (p0 := v326) (p1 := v7) (p2 := v4) (p3 := v1) O48 W hl8 hh9 hl5 hh6 hl2 hh3) (W := 0) (by decide) (by decide) (k' := 18) rfl (n' := 36) rfl (by decide) (by decide) rfl pd_73 (argsL := [(.int v326), (.int v7), (.int v4), (.int v1)]) rfl (rest := []) rfl rfl rfl at_86 (q := 89) rfl ?_
      rintro v329 T330 h331 vm332 C X333 Y334 R335 ⟨K336, ho337⟩
      have O338 := O48.keep K336 all0
      have hr346 : v329.isRef = true := by rcases ho337 with q | ⟨_, _, q, -⟩ <;> rw [q] <;> rfl
      refine g_astore C X333 at_89 (q := 91) rfl hr346 (L' := #[.val (.int p0), .val (.int p1), .val (.long p2), .second, .val (.int v1), .val (.int v4), .val (.int v7), .val v18, .val (.ref b49), .val v329, .unset, .unset, .unset, .unset]) (by (cases v329 <;> first | exact absurd hr346 Bool.false_ne_true | skip) <;> rfl) ?_
      by_cases hc347 : v1 = (87 : Int32)
      · obtain rfl : v1 = (87 : Int32) := hc347
        by_cases hc349 : v4 = (47 : Int32)
        · obtain rfl : v4 = (47 : Int32) := hc349
          refine g_new C X333 (w4 hw) (w5 hw) (w6 hw) at_91 (q := 94) rfl (k' := 19) rfl (n' := 40) rfl (by decide) (by decide) ?_
          intro T352 h353 b351 g355 X354 E356 A357 D358
          have ge359 : n0 ≤ b351 := own_ge O338 g355
          have Y360 := Wx.ext Y334 E356
          have O361 := O338.ext E356
          have f362 : Fld Z h353 b351 "com/example/jetway/jetway/Fetcher$Validators" "lastModified" "Ljava/lang/String;" .null := D358 (Or.inr (w19 hw)) (ty := (.object "java/lang/String")) (by decide)
          have f363 : Fld Z h353 b351 "com/example/jetway/jetway/Fetcher$Validators" "entityTag" "Ljava/lang/String;" .null := D358 (Or.inr (w21 hw)) (ty := (.object "java/lang/String")) (by decide)
          have f364 : Fld Z h353 b351 "com/example/jetway/jetway/Fetcher$Validators" "length" "J" (.long (0 : Int64)) := D358 (Or.inr (w23 hw)) (ty := .long) (by decide)
          have f365 : Fld Z h353 b351 "com/example/jetway/jetway/Fetcher$Validators" "versionId" "Ljava/lang/String;" .null := D358 (Or.inr (w25 hw)) (ty := (.object "java/lang/String")) (by decide)
          refine g_dup C X354 at_94 (q := 95) rfl rfl ?_
          refine g_aload C X354 at_95 (q := 97) rfl rfl hr35 ?_
          refine g_aload C X354 at_97 (q := 99) rfl rfl rfl ?_
          refine g_lloadN C X354 at_99 (q := 100) rfl rfl ?_
          refine g_aload C X354 at_100 (q := 102) rfl rfl hr346 ?_
          have f366 := ((E53.keep K336).ext E356)
          have f367 := ((F54.keep K336 all0).ext E356)
          refine gW_callI0 C X354 Y360 (own_EL hw) (y := (⟨"com/example/jetway/jetway/Fetcher$Validators", "<init>", "(Ljava/lang/String;Ljava/lang/String;JLjava/lang/String;)V"⟩ : MethodName)) (a := b351) (by decide) rfl rfl (w7 hw) (w8 hw) (w9 hw) (w6 hw) (rm_init_5 hw (o0 := b351) (o1 := b49) (i2 := v7) (av3 := v18) (j4 := p2) (av5 := v329) O361 W A357 f362 f363 f364 f365 f366 f367 ge359 ge51 (Ne.symm (own_ne (Nat.lt_of_lt_of_le E53.lt K336.1) g355)) hr35 hr346 hl8 hh9) (W := 1) (by decide) (by decide) (k' := 21) rfl (n' := 52) rfl (by decide) (by decide) rfl pd_97 (argsL := [v18, (.ref b49), (.long p2), v329]) rfl (rest := [(.ref b351)]) rfl rfl rfl at_102 (q := 105) rfl ?_
          rintro T368 h370 vm377 C X369 Y378 R379 ⟨K371, f372, f373, f374, f375, f376⟩
          have O380 := O361.keep K371 (allS ge359 all0)
          refine g_astore C X369 at_105 (q := 107) rfl rfl (L' := #[.val (.int p0), .val (.int p1), .val (.long p2), .second, .val (.int (87 : Int32)), .val (.int (47 : Int32)), .val (.int v7), .val v18, .val (.ref b49), .val v329, .val (.ref b351), .unset, .unset, .unset]) rfl ?_
          refine g_aload C X369 at_107 (q := 109) rfl rfl rfl ?_
          refine g_nulN C X369 at_109 (q := 112) rfl ?_
          refine g_aload C X369 at_112 (q := 114) rfl rfl rfl ?_
          have f381 := (f367.keep K371 (allS (NoS.exa A357 (by decide) (w5 hw)) all0))
          refine g_strLen C X369 (own_wordsLen hw) (w32 hw) (w86 hw) (w73 hw) (w75 hw) (w74 hw) f381 (W.1.ext O380.2) W.2.1 (W := 0) (by decide) (by decide) (by decide) (by decide) rfl rfl at_114 (q := 117) rfl ?_
          intro T382 X383
          change Goes p e below _ (T382.setTop (mkF m 117 #[.val (.int p0), .val (.int p1), .val (.long p2), .second, .val (.int (87 : Int32)), .val (.int (47 : Int32)), .val (.int v7), .val v18, .val (.ref b49), .val v329, .val (.ref b351), .unset, .unset, .unset] ((.int (3 : Int32)) :: [])))
          refine g_iconst C X383 at_117 (q := 118) rfl (z := (2 : Int32)) rfl ?_
          refine g_icN C X383 at_118 (q := 121) rfl (by decide) ?_
          refine g_aload C X383 at_121 (q := 123) rfl rfl rfl ?_
          refine g_iconst C X383 at_123 (q := 124) rfl (z := (0 : Int32)) rfl ?_
          refine g_strChr C X383 (own_wordsChN hw) (w32 hw) (w87 hw) (w88 hw) (w90 hw) (w89 hw) f381 (W.1.ext O380.2) W.2.1 (W.2.2.1.ext O380.2) W.2.2.2 (ix := 0) (Nat.le_of_ble_eq_true rfl) rfl (w := (87 : Int32)) rfl (W := 0) (by decide) (by decide) (by decide) (by decide) rfl rfl at_124 (q := 127) rfl ?_
          intro T384 X385
          refine g_bipush C X385 at_127 (q := 129) rfl (z := (87 : Int32)) rfl ?_
          refine g_icN C X385 at_129 (q := 132) rfl (by decide) ?_
          refine g_aload C X385 at_132 (q := 134) rfl rfl rfl ?_
          refine g_iconst C X385 at_134 (q := 135) rfl (z := (1 : Int32)) rfl ?_
          refine g_strChr C X385 (own_wordsChN hw) (w32 hw) (w87 hw) (w88 hw) (w90 hw) (w89 hw) f381 (W.1.ext O380.2) W.2.1 (W.2.2.1.ext O380.2) W.2.2.2 (ix := 1) (Nat.le_of_ble_eq_true rfl) rfl (w := (47 : Int32)) rfl (W := 0) (by decide) (by decide) (by decide) (by decide) rfl rfl at_135 (q := 138) rfl ?_
          intro T386 X387
          refine g_bipush C X387 at_138 (q := 140) rfl (z := (47 : Int32)) rfl ?_
          refine g_icN C X387 at_140 (q := 143) rfl (by decide) ?_
          refine g_iconst C X387 at_143 (q := 144) rfl (z := (1 : Int32)) rfl ?_
          refine g_goto C X387 at_144 (by decide) (q := 148) (by decide) ?_
          refine g_istore C X387 at_148 (q := 150) rfl (L' := #[.val (.int p0), .val (.int p1), .val (.long p2), .second, .val (.int (87 : Int32)), .val (.int (47 : Int32)), .val (.int v7), .val v18, .val (.ref b49), .val v329, .val (.ref b351), .val (.int (1 : Int32)), .unset, .unset]) rfl ?_
          refine g_aload C X387 at_150 (q := 152) rfl rfl rfl ?_
          refine g_nulN C X387 at_152 (q := 155) rfl ?_
          refine g_iload C X387 at_155 (q := 157) rfl rfl ?_
          refine g_ifY C X387 at_157 (by decide) (q := 164) (by decide) (by decide) ?_
          refine g_iconst C X387 at_164 (q := 165) rfl (z := (0 : Int32)) rfl ?_
          refine g_istore C X387 at_165 (q := 167) rfl (L' := #[.val (.int p0), .val (.int p1), .val (.long p2), .second, .val (.int (87 : Int32)), .val (.int (47 : Int32)), .val (.int v7), .val v18, .val (.ref b49), .val v329, .val (.ref b351), .val (.int (1 : Int32)), .val (.int (0 : Int32)), .unset]) rfl ?_
          refine g_aload C X387 at_167 (q := 169) rfl rfl hr346 ?_
          rcases ho337 with rfl | ⟨b388, _, rfl, -⟩
          · refine g_nonN C X387 at_169 (q := 172) rfl ?_
            refine g_iload C X387 at_172 (q := 174) rfl rfl ?_
            refine g_ifN C X387 at_174 (q := 177) rfl (by decide) ?_
            refine g_aload C X387 at_177 (q := 179) rfl rfl hr35 ?_
            rcases ho26 with rfl | ⟨b389, _, rfl, -⟩
            · refine g_nulY C X387 at_179 (by decide) (q := 186) (by decide) ?_
              refine g_iconst C X387 at_186 (q := 187) rfl (z := (0 : Int32)) rfl ?_
              refine g_istore C X387 at_187 (q := 189) rfl (L' := #[.val (.int p0), .val (.int p1), .val (.long p2), .second, .val (.int (87 : Int32)), .val (.int (47 : Int32)), .val (.int v7), .val .null, .val (.ref b49), .val .null, .val (.ref b351), .val (.int (1 : Int32)), .val (.int (0 : Int32)), .val (.int (0 : Int32))]) rfl ?_
              refine g_aload C X387 at_189 (q := 191) rfl rfl rfl ?_
              refine g_callV1 C X387 (y := (⟨"com/example/jetway/jetway/Fetcher$Validators", "statesVersion", "()Z"⟩ : MethodName)) (z := (⟨"com/example/jetway/jetway/Fetcher$Validators", "statesVersion", "()Z"⟩ : MethodName)) (a := b351) (by decide) (w26 hw) (w27 hw) (w29 hw) (w28 hw) (nf_sel (w29 hw)) f372 (w30 hw) (w6 hw) (rm_st_0 hw (o0 := b351) (j1 := p2) O380 W f372 f373 f374 f375 f376 ge359) (W := 0) (by decide) (by decide) (k' := 21) rfl (n' := 52) rfl (by decide) (by decide) rfl pd_109 (argsL := []) rfl (rest := []) rfl rfl rfl at_191 (q := 194) rfl ?_
              rintro _ T390 _ X391 ⟨rfl, rfl⟩
              refine g_iload C X391 at_194 (q := 196) rfl rfl ?_
              refine g_icN C X391 at_196 (q := 199) rfl (by decide) ?_
              refine g_iconst C X391 at_199 (q := 200) rfl (z := (1 : Int32)) rfl ?_
              refine g_goto C X391 at_200 (by decide) (q := 204) (by decide) ?_
              exact gW_retN C X391 Y378 (own_EL hw) (Or.inl rfl) (z' := 1) (by decide) at_204 (by decide) (by decide) ⟨_, rfl, rfl, trivial⟩
            · refine g_nulN C X387 at_179 (q := 182) rfl ?_
              refine g_iconst C X387 at_182 (q := 183) rfl (z := (1 : Int32)) rfl ?_
              refine g_goto C X387 at_183 (by decide) (q := 187) (by decide) ?_
              refine g_istore C X387 at_187 (q := 189) rfl (L' := #[.val (.int p0), .val (.int p1), .val (.long p2), .second, .val (.int (87 : Int32)), .val (.int (47 : Int32)), .val (.int v7), .val (.ref b389), .val (.ref b49), .val .null, .val (.ref b351), .val (.int (1 : Int32)), .val (.int (0 : Int32)), .val (.int (1 : Int32))]) rfl ?_
              refine g_aload C X387 at_189 (q := 191) rfl rfl rfl ?_
              refine g_callV1 C X387 (y := (⟨"com/example/jetway/jetway/Fetcher$Validators", "statesVersion", "()Z"⟩ : MethodName)) (z := (⟨"com/example/jetway/jetway/Fetcher$Validators", "statesVersion", "()Z"⟩ : MethodName)) (a := b351) (by decide) (w26 hw) (w27 hw) (w29 hw) (w28 hw) (nf_sel (w29 hw)) f372 (w30 hw) (w6 hw) (rm_st_1 hw (o0 := b351) (o1 := b389) (j2 := p2) O380 W f372 f373 f374 f375 f376 ge359) (W := 0) (by decide) (by decide) (k' := 21) rfl (n' := 52) rfl (by decide) (by decide) rfl pd_109 (argsL := []) rfl (rest := []) rfl rfl rfl at_191 (q := 194) rfl ?_
              rintro _ T392 _ X393 ⟨rfl, rfl⟩
              refine g_iload C X393 at_194 (q := 196) rfl rfl ?_
              refine g_icN C X393 at_196 (q := 199) rfl (by decide) ?_
              refine g_iconst C X393 at_199 (q := 200) rfl (z := (1 : Int32)) rfl ?_
              refine g_goto C X393 at_200 (by decide) (q := 204) (by decide) ?_
              exact gW_retN C X393 Y378 (own_EL hw) (Or.inl rfl) (z' := 1) (by decide) at_204 (by decide) (by decide) ⟨_, rfl, rfl, trivial⟩
          · refine g_nonY C X387 at_169 (by decide) (q := 182) (by decide) ?_
            refine g_iconst C X387 at_182 (q := 183) rfl (z := (1 : Int32)) rfl ?_
            refine g_goto C X387 at_183 (by decide) (q := 187) (by decide) ?_
            refine g_istore C X387 at_187 (q := 189) rfl (L' := #[.val (.int p0), .val (.int p1), .val (.long p2), .second, .val (.int (87 : Int32)), .val (.int (47 : Int32)), .val (.int v7), .val v18, .val (.ref b49), .val (.ref b388), .val (.ref b351), .val (.int (1 : Int32)), .val (.int (0 : Int32)), .val (.int (1 : Int32))]) rfl ?_
            refine g_aload C X387 at_189 (q := 191) rfl rfl rfl ?_
            refine g_callV1 C X387 (y := (⟨"com/example/jetway/jetway/Fetcher$Validators", "statesVersion", "()Z"⟩ : MethodName)) (z := (⟨"com/example/jetway/jetway/Fetcher$Validators", "statesVersion", "()Z"⟩ : MethodName)) (a := b351) (by decide) (w26 hw) (w27 hw) (w29 hw) (w28 hw) (nf_sel (w29 hw)) f372 (w30 hw) (w6 hw) (rm_st_2 hw (o0 := b351) (av1 := v18) (j2 := p2) (o3 := b388) O380 W f372 f373 f374 f375 f376 ge359 hr35) (W := 0) (by decide) (by decide) (k' := 21) rfl (n' := 52) rfl (by decide) (by decide) rfl pd_109 (argsL := []) rfl (rest := []) rfl rfl rfl at_191 (q := 194) rfl ?_
            rintro _ T394 _ X395 ⟨rfl, rfl⟩
            refine g_iload C X395 at_194 (q := 196) rfl rfl ?_
            refine g_icN C X395 at_196 (q := 199) rfl (by decide) ?_
            refine g_iconst C X395 at_199 (q := 200) rfl (z := (1 : Int32)) rfl ?_
            refine g_goto C X395 at_200 (by decide) (q := 204) (by decide) ?_
            exact gW_retN C X395 Y378 (own_EL hw) (Or.inl rfl) (z' := 1) (by decide) at_204 (by decide) (by decide) ⟨_, rfl, rfl, trivial⟩
        · refine g_new C X333 (w4 hw) (w5 hw) (w6 hw) at_91 (q := 94) rfl (k' := 19) rfl (n' := 40) rfl (by decide) (by decide) ?_
          intro T398 h399 b397 g401 X400 E402 A403 D404
          have ge405 : n0 ≤ b397 := own_ge O338 g401
          have Y406 := Wx.ext Y334 E402
          have O407 := O338.ext E402
          have f408 : Fld Z h399 b397 "com/example/jetway/jetway/Fetcher$Validators" "lastModified" "Ljava/lang/String;" .null := D404 (Or.inr (w19 hw)) (ty := (.object "java/lang/String")) (by decide)
          have f409 : Fld Z h399 b397 "com/example/jetway/jetway/Fetcher$Validators" "entityTag" "Ljava/lang/String;" .null := D404 (Or.inr (w21 hw)) (ty := (.object "java/lang/String")) (by decide)
          have f410 : Fld Z h399 b397 "com/example/jetway/jetway/Fetcher$Validators" "length" "J" (.long (0 : Int64)) := D404 (Or.inr (w23 hw)) (ty := .long) (by decide)
          have f411 : Fld Z h399 b397 "com/example/jetway/jetway/Fetcher$Validators" "versionId" "Ljava/lang/String;" .null := D404 (Or.inr (w25 hw)) (ty := (.object "java/lang/String")) (by decide)
          refine g_dup C X400 at_94 (q := 95) rfl rfl ?_
          refine g_aload C X400 at_95 (q := 97) rfl rfl hr35 ?_
          refine g_aload C X400 at_97 (q := 99) rfl rfl rfl ?_
          refine g_lloadN C X400 at_99 (q := 100) rfl rfl ?_
          refine g_aload C X400 at_100 (q := 102) rfl rfl hr346 ?_
          have f412 := ((E53.keep K336).ext E402)
          have f413 := ((F54.keep K336 all0).ext E402)
          refine gW_callI0 C X400 Y406 (own_EL hw) (y := (⟨"com/example/jetway/jetway/Fetcher$Validators", "<init>", "(Ljava/lang/String;Ljava/lang/String;JLjava/lang/String;)V"⟩ : MethodName)) (a := b397) (by decide) rfl rfl (w7 hw) (w8 hw) (w9 hw) (w6 hw) (rm_init_6 hw (o0 := b397) (o1 := b49) (i2 := v4) (i3 := v7) (av4 := v18) (j5 := p2) (av6 := v329) O407 W A403 f408 f409 f410 f411 f412 f413 ge405 ge51 (Ne.symm (own_ne (Nat.lt_of_lt_of_le E53.lt K336.1) g401)) hr35 hr346 hl5 hh6 hc349 hl8 hh9) (W := 1) (by decide) (by decide) (k' := 21) rfl (n' := 52) rfl (by decide) (by decide) rfl pd_97 (argsL := [v18, (.ref b49), (.long p2), v329]) rfl (rest := [(.ref b397)]) rfl rfl rfl at_102 (q := 105) rfl ?_
          rintro T414 h416 vm423 C X415 Y424 R425 ⟨K417, f418, f419, f420, f421, f422⟩
          have O426 := O407.keep K417 (allS ge405 all0)
          refine g_astore C X415 at_105 (q := 107) rfl rfl (L' := #[.val (.int p0), .val (.int p1), .val (.long p2), .second, .val (.int (87 : Int32)), .val (.int v4), .val (.int v7), .val v18, .val (.ref b49), .val v329, .val (.ref b397), .unset, .unset, .unset]) rfl ?_
          refine g_aload C X415 at_107 (q := 109) rfl rfl rfl ?_
          refine g_nulN C X415 at_109 (q := 112) rfl ?_
          refine g_aload C X415 at_112 (q := 114) rfl rfl rfl ?_
          have f427 := (f413.keep K417 (allS (NoS.exa A403 (by decide) (w5 hw)) all0))
          refine g_strLen C X415 (own_wordsLen hw) (w32 hw) (w86 hw) (w73 hw) (w75 hw) (w74 hw) f427 (W.1.ext O426.2) W.2.1 (W := 0) (by decide) (by decide) (by decide) (by decide) rfl rfl at_114 (q := 117) rfl ?_
          intro T428 X429
          change Goes p e below _ (T428.setTop (mkF m 117 #[.val (.int p0), .val (.int p1), .val (.long p2), .second, .val (.int (87 : Int32)), .val (.int v4), .val (.int v7), .val v18, .val (.ref b49), .val v329, .val (.ref b397), .unset, .unset, .unset] ((.int (3 : Int32)) :: [])))
          refine g_iconst C X429 at_117 (q := 118) rfl (z := (2 : Int32)) rfl ?_
          refine g_icN C X429 at_118 (q := 121) rfl (by decide) ?_
          refine g_aload C X429 at_121 (q := 123) rfl rfl rfl ?_
          refine g_iconst C X429 at_123 (q := 124) rfl (z := (0 : Int32)) rfl ?_
          refine g_strChr C X429 (own_wordsChN hw) (w32 hw) (w87 hw) (w88 hw) (w90 hw) (w89 hw) f427 (W.1.ext O426.2) W.2.1 (W.2.2.1.ext O426.2) W.2.2.2 (ix := 0) (Nat.le_of_ble_eq_true rfl) rfl (w := (87 : Int32)) rfl (W := 0) (by decide) (by decide) (by decide) (by decide) rfl rfl at_124 (q := 127) rfl ?_
          intro T430 X431
          refine g_bipush C X431 at_127 (q := 129) rfl (z := (87 : Int32)) rfl ?_
          refine g_icN C X431 at_129 (q := 132) rfl (by decide) ?_
          refine g_aload C X431 at_132 (q := 134) rfl rfl rfl ?_
          refine g_iconst C X431 at_134 (q := 135) rfl (z := (1 : Int32)) rfl ?_
          refine g_strChr C X431 (own_wordsChN hw) (w32 hw) (w87 hw) (w88 hw) (w90 hw) (w89 hw) f427 (W.1.ext O426.2) W.2.1 (W.2.2.1.ext O426.2) W.2.2.2 (ix := 1) (Nat.le_of_ble_eq_true rfl) rfl (w := v4) rfl (W := 0) (by decide) (by decide) (by decide) (by decide) rfl rfl at_135 (q := 138) rfl ?_
          intro T432 X433
          refine g_bipush C X433 at_138 (q := 140) rfl (z := (47 : Int32)) rfl ?_
          refine g_icY C X433 at_140 (by decide) (q := 147) (by decide) (feq hc349).2 ?_
          refine g_iconst C X433 at_147 (q := 148) rfl (z := (0 : Int32)) rfl ?_
          refine g_istore C X433 at_148 (q := 150) rfl (L' := #[.val (.int p0), .val (.int p1), .val (.long p2), .second, .val (.int (87 : Int32)), .val (.int v4), .val (.int v7), .val v18, .val (.ref b49), .val v329, .val (.ref b397), .val (.int (0 : Int32)), .unset, .unset]) rfl ?_
          refine g_aload C X433 at_150 (q := 152) rfl rfl rfl ?_
          refine g_nulN C X433 at_152 (q := 155) rfl ?_
          refine g_iload C X433 at_155 (q := 157) rfl rfl ?_
          refine g_ifN C X433 at_157 (q := 160) rfl (by decide) ?_
          refine g_iconst C X433 at_160 (q := 161) rfl (z := (1 : Int32)) rfl ?_
          refine g_goto C X433 at_161 (by decide) (q := 165) (by decide) ?_
          refine g_istore C X433 at_165 (q := 167) rfl (L' := #[.val (.int p0), .val (.int p1), .val (.long p2), .second, .val (.int (87 : Int32)), .val (.int v4), .val (.int v7), .val v18, .val (.ref b49), .val v329, .val (.ref b397), .val (.int (0 : Int32)), .val (.int (1 : Int32)), .unset]) rfl ?_
          refine g_aload C X433 at_167 (q := 169) rfl rfl hr346 ?_
          rcases ho337 with rfl | ⟨b434, _, rfl, -⟩
          · refine g_nonN C X433 at_169 (q := 172) rfl ?_
            refine g_iload C X433 at_172 (q := 174) rfl rfl ?_
            refine g_ifY C X433 at_174 (by decide) (q := 182) (by decide) (by decide) ?_
            refine g_iconst C X433 at_182 (q := 183) rfl (z := (1 : Int32)) rfl ?_
            refine g_goto C X433 at_183 (by decide) (q := 187) (by decide) ?_
            refine g_istore C X433 at_187 (q := 189) rfl (L' := #[.val (.int p0), .val (.int p1), .val (.long p2), .second, .val (.int (87 : Int32)), .val (.int v4), .val (.int v7), .val v18, .val (.ref b49), .val .null, .val (.ref b397), .val (.int (0 : Int32)), .val (.int (1 : Int32)), .val (.int (1 : Int32))]) rfl ?_
            refine g_aload C X433 at_189 (q := 191) rfl rfl rfl ?_
            refine g_callV1 C X433 (y := (⟨"com/example/jetway/jetway/Fetcher$Validators", "statesVersion", "()Z"⟩ : MethodName)) (z := (⟨"com/example/jetway/jetway/Fetcher$Validators", "statesVersion", "()Z"⟩ : MethodName)) (a := b397) (by decide) (w26 hw) (w27 hw) (w29 hw) (w28 hw) (nf_sel (w29 hw)) f418 (w30 hw) (w6 hw) (rm_st_3 hw (o0 := b397) (av1 := v18) (o2 := b49) (j3 := p2) O426 W f418 f419 f420 f421 f422 ge405 hr35) (W := 0) (by decide) (by decide) (k' := 21) rfl (n' := 52) rfl (by decide) (by decide) rfl pd_109 (argsL := []) rfl (rest := []) rfl rfl rfl at_191 (q := 194) rfl ?_
            rintro _ T435 _ X436 ⟨rfl, rfl⟩
            refine g_iload C X436 at_194 (q := 196) rfl rfl ?_
            refine g_icN C X436 at_196 (q := 199) rfl (by decide) ?_
            refine g_iconst C X436 at_199 (q := 200) rfl (z := (1 : Int32)) rfl ?_
            refine g_goto C X436 at_200 (by decide) (q := 204) (by decide) ?_
            exact gW_retN C X436 Y424 (own_EL hw) (Or.inl rfl) (z' := 1) (by decide) at_204 (by decide) (by decide) ⟨_, rfl, rfl, trivial⟩
          · refine g_nonY C X433 at_169 (by decide) (q := 182) (by decide) ?_
            refine g_iconst C X433 at_182 (q := 183) rfl (z := (1 : Int32)) rfl ?_
            refine g_goto C X433 at_183 (by decide) (q := 187) (by decide) ?_
            refine g_istore C X433 at_187 (q := 189) rfl (L' := #[.val (.int p0), .val (.int p1), .val (.long p2), .second, .val (.int (87 : Int32)), .val (.int v4), .val (.int v7), .val v18, .val (.ref b49), .val (.ref b434), .val (.ref b397), .val (.int (0 : Int32)), .val (.int (1 : Int32)), .val (.int (1 : Int32))]) rfl ?_
            refine g_aload C X433 at_189 (q := 191) rfl rfl rfl ?_
            refine g_callV1 C X433 (y := (⟨"com/example/jetway/jetway/Fetcher$Validators", "statesVersion", "()Z"⟩ : MethodName)) (z := (⟨"com/example/jetway/jetway/Fetcher$Validators", "statesVersion", "()Z"⟩ : MethodName)) (a := b397) (by decide) (w26 hw) (w27 hw) (w29 hw) (w28 hw) (nf_sel (w29 hw)) f418 (w30 hw) (w6 hw) (rm_st_4 hw (o0 := b397) (av1 := v18) (o2 := b49) (j3 := p2) (o4 := b434) O426 W f418 f419 f420 f421 f422 ge405 hr35) (W := 0) (by decide) (by decide) (k' := 21) rfl (n' := 52) rfl (by decide) (by decide) rfl pd_109 (argsL := []) rfl (rest := []) rfl rfl rfl at_191 (q := 194) rfl ?_
            rintro _ T437 _ X438 ⟨rfl, rfl⟩
            refine g_iload C X438 at_194 (q := 196) rfl rfl ?_
            refine g_icN C X438 at_196 (q := 199) rfl (by decide) ?_
            refine g_iconst C X438 at_199 (q := 200) rfl (z := (1 : Int32)) rfl ?_
            refine g_goto C X438 at_200 (by decide) (q := 204) (by decide) ?_
            exact gW_retN C X438 Y424 (own_EL hw) (Or.inl rfl) (z' := 1) (by decide) at_204 (by decide) (by decide) ⟨_, rfl, rfl, trivial⟩
      · refine g_new C X333 (w4 hw) (w5 hw) (w6 hw) at_91 (q := 94) rfl (k' := 19) rfl (n' := 40) rfl (by decide) (by decide) ?_
        intro T441 h442 b440 g444 X443 E445 A446 D447
        have ge448 : n0 ≤ b440 := own_ge O338 g444
        have Y449 := Wx.ext Y334 E445
        have O450 := O338.ext E445
        have f451 : Fld Z h442 b440 "com/example/jetway/jetway/Fetcher$Validators" "lastModified" "Ljava/lang/String;" .null := D447 (Or.inr (w19 hw)) (ty := (.object "java/lang/String")) (by decide)
        have f452 : Fld Z h442 b440 "com/example/jetway/jetway/Fetcher$Validators" "entityTag" "Ljava/lang/String;" .null := D447 (Or.inr (w21 hw)) (ty := (.object "java/lang/String")) (by decide)
        have f453 : Fld Z h442 b440 "com/example/jetway/jetway/Fetcher$Validators" "length" "J" (.long (0 : Int64)) := D447 (Or.inr (w23 hw)) (ty := .long) (by decide)
        have f454 : Fld Z h442 b440 "com/example/jetway/jetway/Fetcher$Validators" "versionId" "Ljava/lang/String;" .null := D447 (Or.inr (w25 hw)) (ty := (.object "java/lang/String")) (by decide)
        refine g_dup C X443 at_94 (q := 95) rfl rfl ?_
        refine g_aload C X443 at_95 (q := 97) rfl rfl hr35 ?_
        refine g_aload C X443 at_97 (q := 99) rfl rfl rfl ?_
        refine g_lloadN C X443 at_99 (q := 100) rfl rfl ?_
        refine g_aload C X443 at_100 (q := 102) rfl rfl hr346 ?_
        have f455 := ((E53.keep K336).ext E445)
        have f456 := ((F54.keep K336 all0).ext E445)
        refine gW_callI0 C X443 Y449 (own_EL hw) (y := (⟨"com/example/jetway/jetway/Fetcher$Validators", "<init>", "(Ljava/lang/String;Ljava/lang/String;JLjava/lang/String;)V"⟩ : MethodName)) (a := b440) (by decide) rfl rfl (w7 hw) (w8 hw) (w9 hw) (w6 hw) (rm_init_7 hw (o0 := b440) (o1 := b49) (i2 := v1) (i3 := v4) (i4 := v7) (av5 := v18) (j6 := p2) (av7 := v329) O450 W A446 f451 f452 f453 f454 f455 f456 ge448 ge51 (Ne.symm (own_ne (Nat.lt_of_lt_of_le E53.lt K336.1) g444)) hr35 hr346 hl2 hh3 hc347 hl5 hh6 hl8 hh9) (W := 1) (by decide) (by decide) (k' := 21) rfl (n' := 52) rfl (by decide) (by decide) rfl pd_97 (argsL := [v18, (.ref b49), (.long p2), v329]) rfl (rest := [(.ref b440)]) rfl rfl rfl at_102 (q := 105) rfl ?_
        rintro T457 h459 vm466 C X458 Y467 R468 ⟨K460, f461, f462, f463, f464, f465⟩
        have O469 := O450.keep K460 (allS ge448 all0)
        refine g_astore C X458 at_105 (q := 107) rfl rfl (L' := #[.val (.int p0), .val (.int p1), .val (.long p2), .second, .val (.int v1), .val (.int v4), .val (.int v7), .val v18, .val (.ref b49), .val v329, .val (.ref b440), .unset, .unset, .unset]) rfl ?_
        refine g_aload C X458 at_107 (q := 109) rfl rfl rfl ?_
        refine g_nulN C X458 at_109 (q := 112) rfl ?_
        refine g_aload C X458 at_112 (q := 114) rfl rfl rfl ?_
        have f470 := (f456.keep K460 (allS (NoS.exa A446 (by decide) (w5 hw)) all0))
        refine g_strLen C X458 (own_wordsLen hw) (w32 hw) (w86 hw) (w73 hw) (w75 hw) (w74 hw) f470 (W.1.ext O469.2) W.2.1 (W := 0) (by decide) (by decide) (by decide) (by decide) rfl rfl at_114 (q := 117) rfl ?_
        intro T471 X472
        change Goes p e below _ (T471.setTop (mkF m 117 #[.val (.int p0), .val (.int p1), .val (.long p2), .second, .val (.int v1), .val (.int v4), .val (.int v7), .val v18, .val (.ref b49), .val v329, .val (.ref b440), .unset, .unset, .unset] ((.int (3 : Int32)) :: [])))
        refine g_iconst C X472 at_117 (q := 118) rfl (z := (2 : Int32)) rfl ?_
        refine g_icN C X472 at_118 (q := 121) rfl (by decide) ?_
        refine g_aload C X472 at_121 (q := 123) rfl rfl rfl ?_
        refine g_iconst C X472 at_123 (q := 124) rfl (z := (0 : Int32)) rfl ?_
        refine g_strChr C X472 (own_wordsChN hw) (w32 hw) (w87 hw) (w88 hw) (w90 hw) (w89 hw) f470 (W.1.ext O469.2) W.2.1 (W.2.2.1.ext O469.2) W.2.2.2 (ix := 0) (Nat.le_of_ble_eq_true rfl) rfl (w := v1) rfl (W := 0) (by decide) (by decide) (by decide) (by decide) rfl rfl at_124 (q := 127) rfl ?_
        intro T473 X474
        refine g_bipush C X474 at_127 (q := 129) rfl (z := (87 : Int32)) rfl ?_
        refine g_icY C X474 at_129 (by decide) (q := 147) (by decide) (feq hc347).2 ?_
        refine g_iconst C X474 at_147 (q := 148) rfl (z := (0 : Int32)) rfl ?_
        refine g_istore C X474 at_148 (q := 150) rfl (L' := #[.val (.int p0), .val (.int p1), .val (.long p2), .second, .val (.int v1), .val (.int v4), .val (.int v7), .val v18, .val (.ref b49), .val v329, .val (.ref b440), .val (.int (0 : Int32)), .unset, .unset]) rfl ?_
        refine g_aload C X474 at_150 (q := 152) rfl rfl rfl ?_
        refine g_nulN C X474 at_152 (q := 155) rfl ?_
        refine g_iload C X474 at_155 (q := 157) rfl rfl ?_
        refine g_ifN C X474 at_157 (q := 160) rfl (by decide) ?_
        refine g_iconst C X474 at_160 (q := 161) rfl (z := (1 : Int32)) rfl ?_
        refine g_goto C X474 at_161 (by decide) (q := 165) (by decide) ?_
        refine g_istore C X474 at_165 (q := 167) rfl (L' := #[.val (.int p0), .val (.int p1), .val (.long p2), .second, .val (.int v1), .val (.int v4), .val (.int v7), .val v18, .val (.ref b49), .val v329, .val (.ref b440), .val (.int (0 : Int32)), .val (.int (1 : Int32)), .unset]) rfl ?_
        refine g_aload C X474 at_167 (q := 169) rfl rfl hr346 ?_
        rcases ho337 with rfl | ⟨b475, _, rfl, -⟩
        · refine g_nonN C X474 at_169 (q := 172) rfl ?_
          refine g_iload C X474 at_172 (q := 174) rfl rfl ?_
          refine g_ifY C X474 at_174 (by decide) (q := 182) (by decide) (by decide) ?_
          refine g_iconst C X474 at_182 (q := 183) rfl (z := (1 : Int32)) rfl ?_
          refine g_goto C X474 at_183 (by decide) (q := 187) (by decide) ?_
          refine g_istore C X474 at_187 (q := 189) rfl (L' := #[.val (.int p0), .val (.int p1), .val (.long p2), .second, .val (.int v1), .val (.int v4), .val (.int v7), .val v18, .val (.ref b49), .val .null, .val (.ref b440), .val (.int (0 : Int32)), .val (.int (1 : Int32)), .val (.int (1 : Int32))]) rfl ?_
          refine g_aload C X474 at_189 (q := 191) rfl rfl rfl ?_
          refine g_callV1 C X474 (y := (⟨"com/example/jetway/jetway/Fetcher$Validators", "statesVersion", "()Z"⟩ : MethodName)) (z := (⟨"com/example/jetway/jetway/Fetcher$Validators", "statesVersion", "()Z"⟩ : MethodName)) (a := b440) (by decide) (w26 hw) (w27 hw) (w29 hw) (w28 hw) (nf_sel (w29 hw)) f461 (w30 hw) (w6 hw) (rm_st_3 hw (o0 := b440) (av1 := v18) (o2 := b49) (j3 := p2) O469 W f461 f462 f463 f464 f465 ge448 hr35) (W := 0) (by decide) (by decide) (k' := 21) rfl (n' := 52) rfl (by decide) (by decide) rfl pd_109 (argsL := []) rfl (rest := []) rfl rfl rfl at_191 (q := 194) rfl ?_
          rintro _ T476 _ X477 ⟨rfl, rfl⟩
          refine g_iload C X477 at_194 (q := 196) rfl rfl ?_
          refine g_icN C X477 at_196 (q := 199) rfl (by decide) ?_
          refine g_iconst C X477 at_199 (q := 200) rfl (z := (1 : Int32)) rfl ?_
          refine g_goto C X477 at_200 (by decide) (q := 204) (by decide) ?_
          exact gW_retN C X477 Y467 (own_EL hw) (Or.inl rfl) (z' := 1) (by decide) at_204 (by decide) (by decide) ⟨_, rfl, rfl, trivial⟩
        · refine g_nonY C X474 at_169 (by decide) (q := 182) (by decide) ?_
          refine g_iconst C X474 at_182 (q := 183) rfl (z := (1 : Int32)) rfl ?_
          refine g_goto C X474 at_183 (by decide) (q := 187) (by decide) ?_
          refine g_istore C X474 at_187 (q := 189) rfl (L' := #[.val (.int p0), .val (.int p1), .val (.long p2), .second, .val (.int v1), .val (.int v4), .val (.int v7), .val v18, .val (.ref b49), .val (.ref b475), .val (.ref b440), .val (.int (0 : Int32)), .val (.int (1 : Int32)), .val (.int (1 : Int32))]) rfl ?_
          refine g_aload C X474 at_189 (q := 191) rfl rfl rfl ?_
          refine g_callV1 C X474 (y := (⟨"com/example/jetway/jetway/Fetcher$Validators", "statesVersion", "()Z"⟩ : MethodName)) (z := (⟨"com/example/jetway/jetway/Fetcher$Validators", "statesVersion", "()Z"⟩ : MethodName)) (a := b440) (by decide) (w26 hw) (w27 hw) (w29 hw) (w28 hw) (nf_sel (w29 hw)) f461 (w30 hw) (w6 hw) (rm_st_4 hw (o0 := b440) (av1 := v18) (o2 := b49) (j3 := p2) (o4 := b475) O469 W f461 f462 f463 f464 f465 ge448 hr35) (W := 0) (by decide) (by decide) (k' := 21) rfl (n' := 52) rfl (by decide) (by decide) rfl pd_109 (argsL := []) rfl (rest := []) rfl rfl rfl at_191 (q := 194) rfl ?_
          rintro _ T478 _ X479 ⟨rfl, rfl⟩
          refine g_iload C X479 at_194 (q := 196) rfl rfl ?_
          refine g_icN C X479 at_196 (q := 199) rfl (by decide) ?_
          refine g_iconst C X479 at_199 (q := 200) rfl (z := (1 : Int32)) rfl ?_
          refine g_goto C X479 at_200 (by decide) (q := 204) (by decide) ?_
          exact gW_retN C X479 Y467 (own_EL hw) (Or.inl rfl) (z' := 1) (by decide) at_204 (by decide) (by decide) ⟨_, rfl, rfl, trivial⟩
  · refine g_ifN C X at_34 (q := 37) rfl (feq hc13).1 ?_
    have hr480 : 1 ≤ v10.toInt := own_f5 hc13 hl11 (by decide)
    refine g_bipush C X at_37 (q := 39) rfl (z := (87 : Int32)) rfl ?_
    refine g_istore C X at_39 (q := 41) rfl (L' := #[.val (.int p0), .val (.int p1), .val (.long p2), .second, .val (.int (87 : Int32)), .val (.int v4), .val (.int v7), .unset, .unset, .unset, .unset, .unset, .unset, .unset]) rfl ?_
    refine g_bipush C X at_41 (q := 43) rfl (z := (47 : Int32)) rfl ?_
    refine g_istore C X at_43 (q := 45) rfl (L' := #[.val (.int p0), .val (.int p1), .val (.long p2), .second, .val (.int (87 : Int32)), .val (.int (47 : Int32)), .val (.int v7), .unset, .unset, .unset, .unset, .unset, .unset, .unset]) rfl ?_
    refine g_iloadN C X at_45 (q := 46) rfl rfl ?_
    refine g_iconst C X at_46 (q := 47) rfl (z := (3 : Int32)) rfl ?_
    obtain ⟨v481, ev481⟩ : ∃ z, (p0 &&& (3 : Int32)) = z := ⟨_, rfl⟩
    have hl482 : 0 ≤ v481.toInt := by rw [← ev481]; exact (c_and p0 (3 : Int32) (by decide)).1
    have hh483 : v481.toInt ≤ 3 := by rw [← ev481]; exact (c_and p0 (3 : Int32) (by decide)).2
    refine g_iand C X at_47 (q := 48) rfl (z := v481) ev481 ?_
    refine g_iload C X at_48 (q := 50) rfl rfl ?_
    refine g_iload C X at_50 (q := 52) rfl rfl ?_
    refine g_iload C X at_52 (q := 54) rfl rfl ?_
    refine gW_callS1 C X Y (own_EL hw) (y := (⟨"com/example/jetway/jetway/ValidatorsStatesVersionPinLaw", "pick", "(ICCC)Ljava/lang/String;"⟩ : MethodName)) (by decide) (w0 hw) (w1 hw) (w3 hw) (w2 hw) (rm_pick hw (p0 := v481) (p1 := (87 : Int32)) (p2 := (47 : Int32)) (p3 := v7) O W (by decide) (by decide) (by decide) (by decide) hl8 hh9) (W := 0) (by decide) (by decide) (k' := 6) rfl (n' := 12) rfl (by decide) (by decide) rfl pd_73 (argsL := [(.int v481), (.int (87 : Int32)), (.int (47 : Int32)), (.int v7)]) rfl (rest := []) rfl rfl rfl at_54 (q := 57) rfl ?_
    rintro v484 T485 h486 vm487 C X488 Y489 R490 ⟨K491, ho492⟩
    have O493 := O.keep K491 all0
    have hr501 : v484.isRef = true := by rcases ho492 with q | ⟨_, _, q, -⟩ <;> rw [q] <;> rfl
    refine g_astore C X488 at_57 (q := 59) rfl hr501 (L' := #[.val (.int p0), .val (.int p1), .val (.long p2), .second, .val (.int (87 : Int32)), .val (.int (47 : Int32)), .val (.int v7), .val v484, .unset, .unset, .unset, .unset, .unset, .unset]) (by (cases v484 <;> first | exact absurd hr501 Bool.false_ne_true | skip) <;> rfl) ?_
    refine g_iloadN C X488 at_59 (q := 60) rfl rfl ?_
    refine g_iconst C X488 at_60 (q := 61) rfl (z := (2 : Int32)) rfl ?_
    refine g_iushr C X488 at_61 (q := 62) rfl (z := ((p0.toUInt32 >>> ((2 : Int32) &&& 31).toUInt32).toInt32)) rfl ?_
    refine g_iconst C X488 at_62 (q := 63) rfl (z := (3 : Int32)) rfl ?_
    obtain ⟨v502, ev502⟩ : ∃ z, (((p0.toUInt32 >>> ((2 : Int32) &&& 31).toUInt32).toInt32) &&& (3 : Int32)) = z := ⟨_, rfl⟩
    have hl503 : 0 ≤ v502.toInt := by rw [← ev502]; exact (c_and ((p0.toUInt32 >>> ((2 : Int32) &&& 31).toUInt32).toInt32) (3 : Int32) (by decide)).1
    have hh504 : v502.toInt ≤ 3 := by rw [← ev502]; exact (c_and ((p0.toUInt32 >>> ((2 : Int32) &&& 31).toUInt32).toInt32) (3 : Int32) (by decide)).2
    refine g_iand C X488 at_63 (q := 64) rfl (z := v502) ev502 ?_
    refine g_iload C X488 at_64 (q := 66) rfl rfl ?_
    refine g_iload C X488 at_66 (q := 68) rfl rfl ?_
    refine g_iload C X488 at_68 (q := 70) rfl rfl ?_
    refine gW_callS1 C X488 Y489 (own_EL hw) (y := (⟨"com/example/jetway/jetway/ValidatorsStatesVersionPinLaw", "pick", "(ICCC)Ljava/lang/String;"⟩ : MethodName)) (by decide) (w0 hw) (w1 hw) (w3 hw) (w2 hw) (rm_pick hw (p0 := v502) (p1 := (87 : Int32)) (p2 := (47 : Int32)) (p3 := v7) O493 W (by decide) (by decide) (by decide) (by decide) hl8 hh9) (W := 0) (by decide) (by decide) (k' := 12) rfl (n' := 24) rfl (by decide) (by decide) rfl pd_73 (argsL := [(.int v502), (.int (87 : Int32)), (.int (47 : Int32)), (.int v7)]) rfl (rest := []) rfl rfl rfl at_70 (q := 73) rfl ?_
    rintro v505 T506 h507 vm508 C X509 Y510 R511 ⟨K512, ho513⟩
    have O514 := O493.keep K512 all0
    rcases ho513 with rfl | ⟨b515, cs516, rfl, ge517, sz518, E519, F520, rfl | rfl | rfl⟩
    · refine g_astore C X509 at_73 (q := 75) rfl rfl (L' := #[.val (.int p0), .val (.int p1), .val (.long p2), .second, .val (.int (87 : Int32)), .val (.int (47 : Int32)), .val (.int v7), .val v484, .val .null, .unset, .unset, .unset, .unset, .unset]) rfl ?_
      refine g_iloadN C X509 at_75 (q := 76) rfl rfl ?_
      refine g_iconst C X509 at_76 (q := 77) rfl (z := (5 : Int32)) rfl ?_
      refine g_iushr C X509 at_77 (q := 78) rfl (z := ((p0.toUInt32 >>> ((5 : Int32) &&& 31).toUInt32).toInt32)) rfl ?_
      refine g_iconst C X509 at_78 (q := 79) rfl (z := (3 : Int32)) rfl ?_
      obtain ⟨v522, ev522⟩ : ∃ z, (((p0.toUInt32 >>> ((5 : Int32) &&& 31).toUInt32).toInt32) &&& (3 : Int32)) = z := ⟨_, rfl⟩
      have hl523 : 0 ≤ v522.toInt := by rw [← ev522]; exact (c_and ((p0.toUInt32 >>> ((5 : Int32) &&& 31).toUInt32).toInt32) (3 : Int32) (by decide)).1
      have hh524 : v522.toInt ≤ 3 := by rw [← ev522]; exact (c_and ((p0.toUInt32 >>> ((5 : Int32) &&& 31).toUInt32).toInt32) (3 : Int32) (by decide)).2
      refine g_iand C X509 at_79 (q := 80) rfl (z := v522) ev522 ?_
      refine g_iload C X509 at_80 (q := 82) rfl rfl ?_
      refine g_iload C X509 at_82 (q := 84) rfl rfl ?_
      refine g_iload C X509 at_84 (q := 86) rfl rfl ?_
      refine gW_callS1 C X509 Y510 (own_EL hw) (y := (⟨"com/example/jetway/jetway/ValidatorsStatesVersionPinLaw", "pick", "(ICCC)Ljava/lang/String;"⟩ : MethodName)) (by decide) (w0 hw) (w1 hw) (w3 hw) (w2 hw) (rm_pick hw (p0 := v522) (p1 := v7) (p2 := (47 : Int32)) (p3 := (87 : Int32)) O514 W hl8 hh9 (by decide) (by decide) (by decide) (by decide)) (W := 0) (by decide) (by decide) (k' := 18) rfl (n' := 36) rfl (by decide) (by decide) rfl pd_73 (argsL := [(.int v522), (.int v7), (.int (47 : Int32)), (.int (87 : Int32))]) rfl (rest := []) rfl rfl rfl at_86 (q := 89) rfl ?_
      rintro v525 T526 h527 vm528 C X529 Y530 R531 ⟨K532, ho533⟩
      have O534 := O514.keep K532 all0
      have hr542 : v525.isRef = true := by rcases ho533 with q | ⟨_, _, q, -⟩ <;> rw [q] <;> rfl
      refine g_astore C X529 at_89 (q := 91) rfl hr542 (L' := #[.val (.int p0), .val (.int p1), .val (.long p2), .second, .val (.int (87 : Int32)), .val (.int (47 : Int32)), .val (.int v7), .val v484, .val .null, .val v525, .unset, .unset, .unset, .unset]) (by (cases v525 <;> first | exact absurd hr542 Bool.false_ne_true | skip) <;> rfl) ?_
      refine g_new C X529 (w4 hw) (w5 hw) (w6 hw) at_91 (q := 94) rfl (k' := 19) rfl (n' := 40) rfl (by decide) (by decide) ?_
      intro T544 h545 b543 g547 X546 E548 A549 D550
      have ge551 : n0 ≤ b543 := own_ge O534 g547
      have Y552 := Wx.ext Y530 E548
      have O553 := O534.ext E548
      have f554 : Fld Z h545 b543 "com/example/jetway/jetway/Fetcher$Validators" "lastModified" "Ljava/lang/String;" .null := D550 (Or.inr (w19 hw)) (ty := (.object "java/lang/String")) (by decide)
      have f555 : Fld Z h545 b543 "com/example/jetway/jetway/Fetcher$Validators" "entityTag" "Ljava/lang/String;" .null := D550 (Or.inr (w21 hw)) (ty := (.object "java/lang/String")) (by decide)
      have f556 : Fld Z h545 b543 "com/example/jetway/jetway/Fetcher$Validators" "length" "J" (.long (0 : Int64)) := D550 (Or.inr (w23 hw)) (ty := .long) (by decide)
      have f557 : Fld Z h545 b543 "com/example/jetway/jetway/Fetcher$Validators" "versionId" "Ljava/lang/String;" .null := D550 (Or.inr (w25 hw)) (ty := (.object "java/lang/String")) (by decide)
      refine g_dup C X546 at_94 (q := 95) rfl rfl ?_
      refine g_aload C X546 at_95 (q := 97) rfl rfl hr501 ?_
      refine g_aload C X546 at_97 (q := 99) rfl rfl rfl ?_
      refine g_lloadN C X546 at_99 (q := 100) rfl rfl ?_
      refine g_aload C X546 at_100 (q := 102) rfl rfl hr542 ?_
      refine gW_callI0 C X546 Y552 (own_EL hw) (y := (⟨"com/example/jetway/jetway/Fetcher$Validators", "<init>", "(Ljava/lang/String;Ljava/lang/String;JLjava/lang/String;)V"⟩ : MethodName)) (a := b543) (by decide) rfl rfl (w7 hw) (w8 hw) (w9 hw) (w6 hw) (rm_init_0 hw (o0 := b543) (av1 := v484) (j2 := p2) (av3 := v525) O553 W A549 f554 f555 f556 f557 ge551 hr501 hr542) (W := 1) (by decide) (by decide) (k' := 19) rfl (n' := 40) rfl (by decide) (by decide) rfl pd_97 (argsL := [v484, .null, (.long p2), v525]) rfl (rest := [(.ref b543)]) rfl rfl rfl at_102 (q := 105) rfl ?_
      rintro T558 h560 vm567 C X559 Y568 R569 ⟨K561, f562, f563, f564, f565, f566⟩
      have O570 := O553.keep K561 (allS ge551 all0)
      refine g_astore C X559 at_105 (q := 107) rfl rfl (L' := #[.val (.int p0), .val (.int p1), .val (.long p2), .second, .val (.int (87 : Int32)), .val (.int (47 : Int32)), .val (.int v7), .val v484, .val .null, .val v525, .val (.ref b543), .unset, .unset, .unset]) rfl ?_
      refine g_aload C X559 at_107 (q := 109) rfl rfl rfl ?_
      refine g_nulY C X559 at_109 (by decide) (q := 147) (by decide) ?_
      refine g_iconst C X559 at_147 (q := 148) rfl (z := (0 : Int32)) rfl ?_
      refine g_istore C X559 at_148 (q := 150) rfl (L' := #[.val (.int p0), .val (.int p1), .val (.long p2), .second, .val (.int (87 : Int32)), .val (.int (47 : Int32)), .val (.int v7), .val v484, .val .null, .val v525, .val (.ref b543), .val (.int (0 : Int32)), .unset, .unset]) rfl ?_
      refine g_aload C X559 at_150 (q := 152) rfl rfl rfl ?_
      refine g_nulY C X559 at_152 (by decide) (q := 164) (by decide) ?_
      refine g_iconst C X559 at_164 (q := 165) rfl (z := (0 : Int32)) rfl ?_
      refine g_istore C X559 at_165 (q := 167) rfl (L' := #[.val (.int p0), .val (.int p1), .val (.long p2), .second, .val (.int (87 : Int32)), .val (.int (47 : Int32)), .val (.int v7), .val v484, .val .null, .val v525, .val (.ref b543), .val (.int (0 : Int32)), .val (.int (0 : Int32)), .unset]) rfl ?_
      refine g_aload C X559 at_167 (q := 169) rfl rfl hr542 ?_
      rcases ho533 with rfl | ⟨b571, _, rfl, -⟩
      · refine g_nonN C X559 at_169 (q := 172) rfl ?_
        refine g_iload C X559 at_172 (q := 174) rfl rfl ?_
        refine g_ifN C X559 at_174 (q := 177) rfl (by decide) ?_
        refine g_aload C X559 at_177 (q := 179) rfl rfl hr501 ?_
        rcases ho492 with rfl | ⟨b572, _, rfl, -⟩
        · refine g_nulY C X559 at_179 (by decide) (q := 186) (by decide) ?_
          refine g_iconst C X559 at_186 (q := 187) rfl (z := (0 : Int32)) rfl ?_
          refine g_istore C X559 at_187 (q := 189) rfl (L' := #[.val (.int p0), .val (.int p1), .val (.long p2), .second, .val (.int (87 : Int32)), .val (.int (47 : Int32)), .val (.int v7), .val .null, .val .null, .val .null, .val (.ref b543), .val (.int (0 : Int32)), .val (.int (0 : Int32)), .val (.int (0 : Int32))]) rfl ?_
          refine g_aload C X559 at_189 (q := 191) rfl rfl rfl ?_
          refine g_callV1 C X559 (y := (⟨"com/example/jetway/jetway/Fetcher$Validators", "statesVersion", "()Z"⟩ : MethodName)) (z := (⟨"com/example/jetway/jetway/Fetcher$Validators", "statesVersion", "()Z"⟩ : MethodName)) (a := b543) (by decide) (w26 hw) (w27 hw) (w29 hw) (w28 hw) (nf_sel (w29 hw)) f562 (w30 hw) (w6 hw) (rm_st_0 hw (o0 := b543) (j1 := p2) O570 W f562 f563 f564 f565 f566 ge551) (W := 0) (by decide) (by decide) (k' := 19) rfl (n' := 40) rfl (by decide) (by decide) rfl pd_109 (argsL := []) rfl (rest := []) rfl rfl rfl at_191 (q := 194) rfl ?_
          rintro _ T573 _ X574 ⟨rfl, rfl⟩
          refine g_iload C X574 at_194 (q := 196) rfl rfl ?_
          refine g_icN C X574 at_196 (q := 199) rfl (by decide) ?_
          refine g_iconst C X574 at_199 (q := 200) rfl (z := (1 : Int32)) rfl ?_
          refine g_goto C X574 at_200 (by decide) (q := 204) (by decide) ?_
          exact gW_retN C X574 Y568 (own_EL hw) (Or.inl rfl) (z' := 1) (by decide) at_204 (by decide) (by decide) ⟨_, rfl, rfl, trivial⟩
        · refine g_nulN C X559 at_179 (q := 182) rfl ?_
          refine g_iconst C X559 at_182 (q := 183) rfl (z := (1 : Int32)) rfl ?_
          refine g_goto C X559 at_183 (by decide) (q := 187) (by decide) ?_
          refine g_istore C X559 at_187 (q := 189) rfl (L' := #[.val (.int p0), .val (.int p1), .val (.long p2), .second, .val (.int (87 : Int32)), .val (.int (47 : Int32)), .val (.int v7), .val (.ref b572), .val .null, .val .null, .val (.ref b543), .val (.int (0 : Int32)), .val (.int (0 : Int32)), .val (.int (1 : Int32))]) rfl ?_
          refine g_aload C X559 at_189 (q := 191) rfl rfl rfl ?_
          refine g_callV1 C X559 (y := (⟨"com/example/jetway/jetway/Fetcher$Validators", "statesVersion", "()Z"⟩ : MethodName)) (z := (⟨"com/example/jetway/jetway/Fetcher$Validators", "statesVersion", "()Z"⟩ : MethodName)) (a := b543) (by decide) (w26 hw) (w27 hw) (w29 hw) (w28 hw) (nf_sel (w29 hw)) f562 (w30 hw) (w6 hw) (rm_st_1 hw (o0 := b543) (o1 := b572) (j2 := p2) O570 W f562 f563 f564 f565 f566 ge551) (W := 0) (by decide) (by decide) (k' := 19) rfl (n' := 40) rfl (by decide) (by decide) rfl pd_109 (argsL := []) rfl (rest := []) rfl rfl rfl at_191 (q := 194) rfl ?_
          rintro _ T575 _ X576 ⟨rfl, rfl⟩
          refine g_iload C X576 at_194 (q := 196) rfl rfl ?_
          refine g_icN C X576 at_196 (q := 199) rfl (by decide) ?_
          refine g_iconst C X576 at_199 (q := 200) rfl (z := (1 : Int32)) rfl ?_
          refine g_goto C X576 at_200 (by decide) (q := 204) (by decide) ?_
          exact gW_retN C X576 Y568 (own_EL hw) (Or.inl rfl) (z' := 1) (by decide) at_204 (by decide) (by decide) ⟨_, rfl, rfl, trivial⟩
      · refine g_nonY C X559 at_169 (by decide) (q := 182) (by decide) ?_
        refine g_iconst C X559 at_182 (q := 183) rfl (z := (1 : Int32)) rfl ?_
        refine g_goto C X559 at_183 (by decide) (q := 187) (by decide) ?_
        refine g_istore C X559 at_187 (q := 189) rfl (L' := #[.val (.int p0), .val (.int p1), .val (.long p2), .second, .val (.int (87 : Int32)), .val (.int (47 : Int32)), .val (.int v7), .val v484, .val .null, .val (.ref b571), .val (.ref b543), .val (.int (0 : Int32)), .val (.int (0 : Int32)), .val (.int (1 : Int32))]) rfl ?_
        refine g_aload C X559 at_189 (q := 191) rfl rfl rfl ?_
        refine g_callV1 C X559 (y := (⟨"com/example/jetway/jetway/Fetcher$Validators", "statesVersion", "()Z"⟩ : MethodName)) (z := (⟨"com/example/jetway/jetway/Fetcher$Validators", "statesVersion", "()Z"⟩ : MethodName)) (a := b543) (by decide) (w26 hw) (w27 hw) (w29 hw) (w28 hw) (nf_sel (w29 hw)) f562 (w30 hw) (w6 hw) (rm_st_2 hw (o0 := b543) (av1 := v484) (j2 := p2) (o3 := b571) O570 W f562 f563 f564 f565 f566 ge551 hr501) (W := 0) (by decide) (by decide) (k' := 19) rfl (n' := 40) rfl (by decide) (by decide) rfl pd_109 (argsL := []) rfl (rest := []) rfl rfl rfl at_191 (q := 194) rfl ?_
        rintro _ T577 _ X578 ⟨rfl, rfl⟩
        refine g_iload C X578 at_194 (q := 196) rfl rfl ?_
        refine g_icN C X578 at_196 (q := 199) rfl (by decide) ?_
        refine g_iconst C X578 at_199 (q := 200) rfl (z := (1 : Int32)) rfl ?_
        refine g_goto C X578 at_200 (by decide) (q := 204) (by decide) ?_
        exact gW_retN C X578 Y568 (own_EL hw) (Or.inl rfl) (z' := 1) (by decide) at_204 (by decide) (by decide) ⟨_, rfl, rfl, trivial⟩
    · refine g_astore C X509 at_73 (q := 75) rfl rfl (L' := #[.val (.int p0), .val (.int p1), .val (.long p2), .second, .val (.int (87 : Int32)), .val (.int (47 : Int32)), .val (.int v7), .val v484, .val (.ref b515), .unset, .unset, .unset, .unset, .unset]) rfl ?_
      refine g_iloadN C X509 at_75 (q := 76) rfl rfl ?_
      refine g_iconst C X509 at_76 (q := 77) rfl (z := (5 : Int32)) rfl ?_
      refine g_iushr C X509 at_77 (q := 78) rfl (z := ((p0.toUInt32 >>> ((5 : Int32) &&& 31).toUInt32).toInt32)) rfl ?_
      refine g_iconst C X509 at_78 (q := 79) rfl (z := (3 : Int32)) rfl ?_
      obtain ⟨v579, ev579⟩ : ∃ z, (((p0.toUInt32 >>> ((5 : Int32) &&& 31).toUInt32).toInt32) &&& (3 : Int32)) = z := ⟨_, rfl⟩
      have hl580 : 0 ≤ v579.toInt := by rw [← ev579]; exact (c_and ((p0.toUInt32 >>> ((5 : Int32) &&& 31).toUInt32).toInt32) (3 : Int32) (by decide)).1
      have hh581 : v579.toInt ≤ 3 := by rw [← ev579]; exact (c_and ((p0.toUInt32 >>> ((5 : Int32) &&& 31).toUInt32).toInt32) (3 : Int32) (by decide)).2
      refine g_iand C X509 at_79 (q := 80) rfl (z := v579) ev579 ?_
      refine g_iload C X509 at_80 (q := 82) rfl rfl ?_
      refine g_iload C X509 at_82 (q := 84) rfl rfl ?_
      refine g_iload C X509 at_84 (q := 86) rfl rfl ?_
      refine gW_callS1 C X509 Y510 (own_EL hw) (y := (⟨"com/example/jetway/jetway/ValidatorsStatesVersionPinLaw", "pick", "(ICCC)Ljava/lang/String;"⟩ : MethodName)) (by decide) (w0 hw) (w1 hw) (w3 hw) (w2 hw) (rm_pick hw (p0 := v579) (p1 := v7) (p2 := (47 : Int32)) (p3 := (87 : Int32)) O514 W hl8 hh9 (by decide) (by decide) (by decide) (by decide)) (W := 0) (by decide) (by decide) (k' := 18) rfl (n' := 36) rfl (by decide) (by decide) rfl pd_73 (argsL := [(.int v579), (.int v7), (.int (47 : Int32)), (.int (87 : Int32))]) rfl (rest := []) rfl rfl rfl at_86 (q := 89) rfl ?_
      rintro v582 T583 h584 vm585 C X586 Y587 R588 ⟨K589, ho590⟩
      have O591 := O514.keep K589 all0
      have hr599 : v582.isRef = true := by rcases ho590 with q | ⟨_, _, q, -⟩ <;> rw [q] <;> rfl
      refine g_astore C X586 at_89 (q := 91) rfl hr599 (L' := #[.val (.int p0), .val (.int p1), .val (.long p2), .second, .val (.int (87 : Int32)), .val (.int (47 : Int32)), .val (.int v7), .val v484, .val (.ref b515), .val v582, .unset, .unset, .unset, .unset]) (by (cases v582 <;> first | exact absurd hr599 Bool.false_ne_true | skip) <;> rfl) ?_
      refine g_new C X586 (w4 hw) (w5 hw) (w6 hw) at_91 (q := 94) rfl (k' := 19) rfl (n' := 40) rfl (by decide) (by decide) ?_
      intro T601 h602 b600 g604 X603 E605 A606 D607
      have ge608 : n0 ≤ b600 := own_ge O591 g604
      have Y609 := Wx.ext Y587 E605
      have O610 := O591.ext E605
      have f611 : Fld Z h602 b600 "com/example/jetway/jetway/Fetcher$Validators" "lastModified" "Ljava/lang/String;" .null := D607 (Or.inr (w19 hw)) (ty := (.object "java/lang/String")) (by decide)
      have f612 : Fld Z h602 b600 "com/example/jetway/jetway/Fetcher$Validators" "entityTag" "Ljava/lang/String;" .null := D607 (Or.inr (w21 hw)) (ty := (.object "java/lang/String")) (by decide)
      have f613 : Fld Z h602 b600 "com/example/jetway/jetway/Fetcher$Validators" "length" "J" (.long (0 : Int64)) := D607 (Or.inr (w23 hw)) (ty := .long) (by decide)
      have f614 : Fld Z h602 b600 "com/example/jetway/jetway/Fetcher$Validators" "versionId" "Ljava/lang/String;" .null := D607 (Or.inr (w25 hw)) (ty := (.object "java/lang/String")) (by decide)
      refine g_dup C X603 at_94 (q := 95) rfl rfl ?_
      refine g_aload C X603 at_95 (q := 97) rfl rfl hr501 ?_
      refine g_aload C X603 at_97 (q := 99) rfl rfl rfl ?_
      refine g_lloadN C X603 at_99 (q := 100) rfl rfl ?_
      refine g_aload C X603 at_100 (q := 102) rfl rfl hr599 ?_
      have f615 := ((E519.keep K589).ext E605)
      have f616 := ((F520.keep K589 all0).ext E605)
      refine gW_callI0 C X603 Y609 (own_EL hw) (y := (⟨"com/example/jetway/jetway/Fetcher$Validators", "<init>", "(Ljava/lang/String;Ljava/lang/String;JLjava/lang/String;)V"⟩ : MethodName)) (a := b600) (by decide) rfl rfl (w7 hw) (w8 hw) (w9 hw) (w6 hw) (rm_init_1 hw (o0 := b600) (o1 := b515) (av2 := v484) (j3 := p2) (av4 := v582) O610 W A606 f611 f612 f613 f614 f615 f616 ge608 ge517 (Ne.symm (own_ne (Nat.lt_of_lt_of_le E519.lt K589.1) g604)) hr501 hr599) (W := 1) (by decide) (by decide) (k' := 21) rfl (n' := 52) rfl (by decide) (by decide) rfl pd_97 (argsL := [v484, (.ref b515), (.long p2), v582]) rfl (rest := [(.ref b600)]) rfl rfl rfl at_102 (q := 105) rfl ?_
      rintro T617 h619 vm626 C X618 Y627 R628 ⟨K620, f621, f622, f623, f624, f625⟩
      have O629 := O610.keep K620 (allS ge608 all0)
      refine g_astore C X618 at_105 (q := 107) rfl rfl (L' := #[.val (.int p0), .val (.int p1), .val (.long p2), .second, .val (.int (87 : Int32)), .val (.int (47 : Int32)), .val (.int v7), .val v484, .val (.ref b515), .val v582, .val (.ref b600), .unset, .unset, .unset]) rfl ?_
      refine g_aload C X618 at_107 (q := 109) rfl rfl rfl ?_
      refine g_nulN C X618 at_109 (q := 112) rfl ?_
      refine g_aload C X618 at_112 (q := 114) rfl rfl rfl ?_
      have f630 := (f616.keep K620 (allS (NoS.exa A606 (by decide) (w5 hw)) all0))
      refine g_strLen C X618 (own_wordsLen hw) (w32 hw) (w86 hw) (w73 hw) (w75 hw) (w74 hw) f630 (W.1.ext O629.2) W.2.1 (W := 0) (by decide) (by decide) (by decide) (by decide) rfl rfl at_114 (q := 117) rfl ?_
      intro T631 X632
      change Goes p e below _ (T631.setTop (mkF m 117 #[.val (.int p0), .val (.int p1), .val (.long p2), .second, .val (.int (87 : Int32)), .val (.int (47 : Int32)), .val (.int v7), .val v484, .val (.ref b515), .val v582, .val (.ref b600), .unset, .unset, .unset] ((.int (0 : Int32)) :: [])))
      refine g_iconst C X632 at_117 (q := 118) rfl (z := (2 : Int32)) rfl ?_
      refine g_icY C X632 at_118 (by decide) (q := 147) (by decide) (by decide) ?_
      refine g_iconst C X632 at_147 (q := 148) rfl (z := (0 : Int32)) rfl ?_
      refine g_istore C X632 at_148 (q := 150) rfl (L' := #[.val (.int p0), .val (.int p1), .val (.long p2), .second, .val (.int (87 : Int32)), .val (.int (47 : Int32)), .val (.int v7), .val v484, .val (.ref b515), .val v582, .val (.ref b600), .val (.int (0 : Int32)), .unset, .unset]) rfl ?_
      refine g_aload C X632 at_150 (q := 152) rfl rfl rfl ?_
      refine g_nulN C X632 at_152 (q := 155) rfl ?_
      refine g_iload C X632 at_155 (q := 157) rfl rfl ?_
      refine g_ifN C X632 at_157 (q := 160) rfl (by decide) ?_
      refine g_iconst C X632 at_160 (q := 161) rfl (z := (1 : Int32)) rfl ?_
      refine g_goto C X632 at_161 (by decide) (q := 165) (by decide) ?_
      refine g_istore C X632 at_165 (q := 167) rfl (L' := #[.val (.int p0), .val (.int p1), .val (.long p2), .second, .val (.int (87 : Int32)), .val (.int (47 : Int32)), .val (.int v7), .val v484, .val (.ref b515), .val v582, .val (.ref b600), .val (.int (0 : Int32)), .val (.int (1 : Int32)), .unset]) rfl ?_
      refine g_aload C X632 at_167 (q := 169) rfl rfl hr599 ?_
      rcases ho590 with rfl | ⟨b633, _, rfl, -⟩
      · refine g_nonN C X632 at_169 (q := 172) rfl ?_
        refine g_iload C X632 at_172 (q := 174) rfl rfl ?_
        refine g_ifY C X632 at_174 (by decide) (q := 182) (by decide) (by decide) ?_
        refine g_iconst C X632 at_182 (q := 183) rfl (z := (1 : Int32)) rfl ?_
        refine g_goto C X632 at_183 (by decide) (q := 187) (by decide) ?_
        refine g_istore C X632 at_187 (q := 189) rfl (L' := #[.val (.int p0), .val (.int p1), .val (.long p2), .second, .val (.int (87 : Int32)), .val (.int (47 : Int32)), .val (.int v7), .val v484, .val (.ref b515), .val .null, .val (.ref b600), .val (.int (0 : Int32)), .val (.int (1 : Int32)), .val (.int (1 : Int32))]) rfl ?_
        refine g_aload C X632 at_189 (q := 191) rfl rfl rfl ?_
        refine g_callV1 C X632 (y := (⟨"com/example/jetway/jetway/Fetcher$Validators", "statesVersion", "()Z"⟩ : MethodName)) (z := (⟨"com/example/jetway/jetway/Fetcher$Validators", "statesVersion", "()Z"⟩ : MethodName)) (a := b600) (by decide) (w26 hw) (w27 hw) (w29 hw) (w28 hw) (nf_sel (w29 hw)) f621 (w30 hw) (w6 hw) (rm_st_3 hw (o0 := b600) (av1 := v484) (o2 := b515) (j3 := p2) O629 W f621 f622 f623 f624 f625 ge608 hr501) (W := 0) (by decide) (by decide) (k' := 21) rfl (n' := 52) rfl (by decide) (by decide) rfl pd_109 (argsL := []) rfl (rest := []) rfl rfl rfl at_191 (q := 194) rfl ?_
        rintro _ T634 _ X635 ⟨rfl, rfl⟩
        refine g_iload C X635 at_194 (q := 196) rfl rfl ?_
        refine g_icN C X635 at_196 (q := 199) rfl (by decide) ?_
        refine g_iconst C X635 at_199 (q := 200) rfl (z := (1 : Int32)) rfl ?_
        refine g_goto C X635 at_200 (by decide) (q := 204) (by decide) ?_
        exact gW_retN C X635 Y627 (own_EL hw) (Or.inl rfl) (z' := 1) (by decide) at_204 (by decide) (by decide) ⟨_, rfl, rfl, trivial⟩
      · refine g_nonY C X632 at_169 (by decide) (q := 182) (by decide) ?_
        refine g_iconst C X632 at_182 (q := 183) rfl (z := (1 : Int32)) rfl ?_
        refine g_goto C X632 at_183 (by decide) (q := 187) (by decide) ?_
        refine g_istore C X632 at_187 (q := 189) rfl (L' := #[.val (.int p0), .val (.int p1), .val (.long p2), .second, .val (.int (87 : Int32)), .val (.int (47 : Int32)), .val (.int v7), .val v484, .val (.ref b515), .val (.ref b633), .val (.ref b600), .val (.int (0 : Int32)), .val (.int (1 : Int32)), .val (.int (1 : Int32))]) rfl ?_
        refine g_aload C X632 at_189 (q := 191) rfl rfl rfl ?_
        refine g_callV1 C X632 (y := (⟨"com/example/jetway/jetway/Fetcher$Validators", "statesVersion", "()Z"⟩ : MethodName)) (z := (⟨"com/example/jetway/jetway/Fetcher$Validators", "statesVersion", "()Z"⟩ : MethodName)) (a := b600) (by decide) (w26 hw) (w27 hw) (w29 hw) (w28 hw) (nf_sel (w29 hw)) f621 (w30 hw) (w6 hw) (rm_st_4 hw (o0 := b600) (av1 := v484) (o2 := b515) (j3 := p2) (o4 := b633) O629 W f621 f622 f623 f624 f625 ge608 hr501) (W := 0) (by decide) (by decide) (k' := 21) rfl (n' := 52) rfl (by decide) (by decide) rfl pd_109 (argsL := []) rfl (rest := []) rfl rfl rfl at_191 (q := 194) rfl ?_
        rintro _ T636 _ X637 ⟨rfl, rfl⟩
        refine g_iload C X637 at_194 (q := 196) rfl rfl ?_
        refine g_icN C X637 at_196 (q := 199) rfl (by decide) ?_
        refine g_iconst C X637 at_199 (q := 200) rfl (z := (1 : Int32)) rfl ?_
        refine g_goto C X637 at_200 (by decide) (q := 204) (by decide) ?_
        exact gW_retN C X637 Y627 (own_EL hw) (Or.inl rfl) (z' := 1) (by decide) at_204 (by decide) (by decide) ⟨_, rfl, rfl, trivial⟩
    · refine g_astore C X509 at_73 (q := 75) rfl rfl (L' := #[.val (.int p0), .val (.int p1), .val (.long p2), .second, .val (.int (87 : Int32)), .val (.int (47 : Int32)), .val (.int v7), .val v484, .val (.ref b515), .unset, .unset, .unset, .unset, .unset]) rfl ?_
      refine g_iloadN C X509 at_75 (q := 76) rfl rfl ?_
      refine g_iconst C X509 at_76 (q := 77) rfl (z := (5 : Int32)) rfl ?_
      refine g_iushr C X509 at_77 (q := 78) rfl (z := ((p0.toUInt32 >>> ((5 : Int32) &&& 31).toUInt32).toInt32)) rfl ?_
      refine g_iconst C X509 at_78 (q := 79) rfl (z := (3 : Int32)) rfl ?_
      obtain ⟨v638, ev638⟩ : ∃ z, (((p0.toUInt32 >>> ((5 : Int32) &&& 31).toUInt32).toInt32) &&& (3 : Int32)) = z := ⟨_, rfl⟩
      have hl639 : 0 ≤ v638.toInt := by rw [← ev638]; exact (c_and ((p0.toUInt32 >>> ((5 : Int32) &&& 31).toUInt32).toInt32) (3 : Int32) (by decide)).1
      have hh640 : v638.toInt ≤ 3 := by rw [← ev638]; exact (c_and ((p0.toUInt32 >>> ((5 : Int32) &&& 31).toUInt32).toInt32) (3 : Int32) (by decide)).2
      refine g_iand C X509 at_79 (q := 80) rfl (z := v638) ev638 ?_
      refine g_iload C X509 at_80 (q := 82) rfl rfl ?_
      refine g_iload C X509 at_82 (q := 84) rfl rfl ?_
      refine g_iload C X509 at_84 (q := 86) rfl rfl ?_
      refine gW_callS1 C X509 Y510 (own_EL hw) (y := (⟨"com/example/jetway/jetway/ValidatorsStatesVersionPinLaw", "pick", "(ICCC)Ljava/lang/String;"⟩ : MethodName)) (by decide) (w0 hw) (w1 hw) (w3 hw) (w2 hw) (rm_pick hw (p0 := v638) (p1 := v7) (p2 := (47 : Int32)) (p3 := (87 : Int32)) O514 W hl8 hh9 (by decide) (by decide) (by decide) (by decide)) (W := 0) (by decide) (by decide) (k' := 18) rfl (n' := 36) rfl (by decide) (by decide) rfl pd_73 (argsL := [(.int v638), (.int v7), (.int (47 : Int32)), (.int (87 : Int32))]) rfl (rest := []) rfl rfl rfl at_86 (q := 89) rfl ?_
      rintro v641 T642 h643 vm644 C X645 Y646 R647 ⟨K648, ho649⟩
      have O650 := O514.keep K648 all0
      have hr658 : v641.isRef = true := by rcases ho649 with q | ⟨_, _, q, -⟩ <;> rw [q] <;> rfl
      refine g_astore C X645 at_89 (q := 91) rfl hr658 (L' := #[.val (.int p0), .val (.int p1), .val (.long p2), .second, .val (.int (87 : Int32)), .val (.int (47 : Int32)), .val (.int v7), .val v484, .val (.ref b515), .val v641, .unset, .unset, .unset, .unset]) (by (cases v641 <;> first | exact absurd hr658 Bool.false_ne_true | skip) <;> rfl) ?_
      refine g_new C X645 (w4 hw) (w5 hw) (w6 hw) at_91 (q := 94) rfl (k' := 19) rfl (n' := 40) rfl (by decide) (by decide) ?_
      intro T660 h661 b659 g663 X662 E664 A665 D666
      have ge667 : n0 ≤ b659 := own_ge O650 g663
      have Y668 := Wx.ext Y646 E664
      have O669 := O650.ext E664
      have f670 : Fld Z h661 b659 "com/example/jetway/jetway/Fetcher$Validators" "lastModified" "Ljava/lang/String;" .null := D666 (Or.inr (w19 hw)) (ty := (.object "java/lang/String")) (by decide)
      have f671 : Fld Z h661 b659 "com/example/jetway/jetway/Fetcher$Validators" "entityTag" "Ljava/lang/String;" .null := D666 (Or.inr (w21 hw)) (ty := (.object "java/lang/String")) (by decide)
      have f672 : Fld Z h661 b659 "com/example/jetway/jetway/Fetcher$Validators" "length" "J" (.long (0 : Int64)) := D666 (Or.inr (w23 hw)) (ty := .long) (by decide)
      have f673 : Fld Z h661 b659 "com/example/jetway/jetway/Fetcher$Validators" "versionId" "Ljava/lang/String;" .null := D666 (Or.inr (w25 hw)) (ty := (.object "java/lang/String")) (by decide)
      refine g_dup C X662 at_94 (q := 95) rfl rfl ?_
      refine g_aload C X662 at_95 (q := 97) rfl rfl hr501 ?_
      refine g_aload C X662 at_97 (q := 99) rfl rfl rfl ?_
      refine g_lloadN C X662 at_99 (q := 100) rfl rfl ?_
      refine g_aload C X662 at_100 (q := 102) rfl rfl hr658 ?_
      have f674 := ((E519.keep K648).ext E664)
      have f675 := ((F520.keep K648 all0).ext E664)
      refine gW_callI0 C X662 Y668 (own_EL hw) (y := (⟨"com/example/jetway/jetway/Fetcher$Validators", "<init>", "(Ljava/lang/String;Ljava/lang/String;JLjava/lang/String;)V"⟩ : MethodName)) (a := b659) (by decide) rfl rfl (w7 hw) (w8 hw) (w9 hw) (w6 hw) (rm_init_2 hw (o0 := b659) (o1 := b515) (av2 := v484) (j3 := p2) (av4 := v641) O669 W A665 f670 f671 f672 f673 f674 f675 ge667 ge517 (Ne.symm (own_ne (Nat.lt_of_lt_of_le E519.lt K648.1) g663)) hr501 hr658) (W := 1) (by decide) (by decide) (k' := 21) rfl (n' := 52) rfl (by decide) (by decide) rfl pd_97 (argsL := [v484, (.ref b515), (.long p2), v641]) rfl (rest := [(.ref b659)]) rfl rfl rfl at_102 (q := 105) rfl ?_
      rintro T676 h678 vm685 C X677 Y686 R687 ⟨K679, f680, f681, f682, f683, f684⟩
      have O688 := O669.keep K679 (allS ge667 all0)
      refine g_astore C X677 at_105 (q := 107) rfl rfl (L' := #[.val (.int p0), .val (.int p1), .val (.long p2), .second, .val (.int (87 : Int32)), .val (.int (47 : Int32)), .val (.int v7), .val v484, .val (.ref b515), .val v641, .val (.ref b659), .unset, .unset, .unset]) rfl ?_
      refine g_aload C X677 at_107 (q := 109) rfl rfl rfl ?_
      refine g_nulN C X677 at_109 (q := 112) rfl ?_
      refine g_aload C X677 at_112 (q := 114) rfl rfl rfl ?_
      have f689 := (f675.keep K679 (allS (NoS.exa A665 (by decide) (w5 hw)) all0))
      refine g_strLen C X677 (own_wordsLen hw) (w32 hw) (w86 hw) (w73 hw) (w75 hw) (w74 hw) f689 (W.1.ext O688.2) W.2.1 (W := 0) (by decide) (by decide) (by decide) (by decide) rfl rfl at_114 (q := 117) rfl ?_
      intro T690 X691
      change Goes p e below _ (T690.setTop (mkF m 117 #[.val (.int p0), .val (.int p1), .val (.long p2), .second, .val (.int (87 : Int32)), .val (.int (47 : Int32)), .val (.int v7), .val v484, .val (.ref b515), .val v641, .val (.ref b659), .unset, .unset, .unset] ((.int (2 : Int32)) :: [])))
      refine g_iconst C X691 at_117 (q := 118) rfl (z := (2 : Int32)) rfl ?_
      refine g_icN C X691 at_118 (q := 121) rfl (by decide) ?_
      refine g_aload C X691 at_121 (q := 123) rfl rfl rfl ?_
      refine g_iconst C X691 at_123 (q := 124) rfl (z := (0 : Int32)) rfl ?_
      refine g_strChr C X691 (own_wordsChN hw) (w32 hw) (w87 hw) (w88 hw) (w90 hw) (w89 hw) f689 (W.1.ext O688.2) W.2.1 (W.2.2.1.ext O688.2) W.2.2.2 (ix := 0) (Nat.le_of_ble_eq_true rfl) rfl (w := (87 : Int32)) rfl (W := 0) (by decide) (by decide) (by decide) (by decide) rfl rfl at_124 (q := 127) rfl ?_
      intro T692 X693
      refine g_bipush C X693 at_127 (q := 129) rfl (z := (87 : Int32)) rfl ?_
      refine g_icN C X693 at_129 (q := 132) rfl (by decide) ?_
      refine g_aload C X693 at_132 (q := 134) rfl rfl rfl ?_
      refine g_iconst C X693 at_134 (q := 135) rfl (z := (1 : Int32)) rfl ?_
      refine g_strChr C X693 (own_wordsChN hw) (w32 hw) (w87 hw) (w88 hw) (w90 hw) (w89 hw) f689 (W.1.ext O688.2) W.2.1 (W.2.2.1.ext O688.2) W.2.2.2 (ix := 1) (Nat.le_of_ble_eq_true rfl) rfl (w := (47 : Int32)) rfl (W := 0) (by decide) (by decide) (by decide) (by decide) rfl rfl at_135 (q := 138) rfl ?_
      intro T694 X695
      refine g_bipush C X695 at_138 (q := 140) rfl (z := (47 : Int32)) rfl ?_
      refine g_icN C X695 at_140 (q := 143) rfl (by decide) ?_
      refine g_iconst C X695 at_143 (q := 144) rfl (z := (1 : Int32)) rfl ?_
      refine g_goto C X695 at_144 (by decide) (q := 148) (by decide) ?_
      refine g_istore C X695 at_148 (q := 150) rfl (L' := #[.val (.int p0), .val (.int p1), .val (.long p2), .second, .val (.int (87 : Int32)), .val (.int (47 : Int32)), .val (.int v7), .val v484, .val (.ref b515), .val v641, .val (.ref b659), .val (.int (1 : Int32)), .unset, .unset]) rfl ?_
      refine g_aload C X695 at_150 (q := 152) rfl rfl rfl ?_
      refine g_nulN C X695 at_152 (q := 155) rfl ?_
      refine g_iload C X695 at_155 (q := 157) rfl rfl ?_
      refine g_ifY C X695 at_157 (by decide) (q := 164) (by decide) (by decide) ?_
      refine g_iconst C X695 at_164 (q := 165) rfl (z := (0 : Int32)) rfl ?_
      refine g_istore C X695 at_165 (q := 167) rfl (L' := #[.val (.int p0), .val (.int p1), .val (.long p2), .second, .val (.int (87 : Int32)), .val (.int (47 : Int32)), .val (.int v7), .val v484, .val (.ref b515), .val v641, .val (.ref b659), .val (.int (1 : Int32)), .val (.int (0 : Int32)), .unset]) rfl ?_
      refine g_aload C X695 at_167 (q := 169) rfl rfl hr658 ?_
      rcases ho649 with rfl | ⟨b696, _, rfl, -⟩
      · refine g_nonN C X695 at_169 (q := 172) rfl ?_
        refine g_iload C X695 at_172 (q := 174) rfl rfl ?_
        refine g_ifN C X695 at_174 (q := 177) rfl (by decide) ?_
        refine g_aload C X695 at_177 (q := 179) rfl rfl hr501 ?_
        rcases ho492 with rfl | ⟨b697, _, rfl, -⟩
        · refine g_nulY C X695 at_179 (by decide) (q := 186) (by decide) ?_
          refine g_iconst C X695 at_186 (q := 187) rfl (z := (0 : Int32)) rfl ?_
          refine g_istore C X695 at_187 (q := 189) rfl (L' := #[.val (.int p0), .val (.int p1), .val (.long p2), .second, .val (.int (87 : Int32)), .val (.int (47 : Int32)), .val (.int v7), .val .null, .val (.ref b515), .val .null, .val (.ref b659), .val (.int (1 : Int32)), .val (.int (0 : Int32)), .val (.int (0 : Int32))]) rfl ?_
          refine g_aload C X695 at_189 (q := 191) rfl rfl rfl ?_
          refine g_callV1 C X695 (y := (⟨"com/example/jetway/jetway/Fetcher$Validators", "statesVersion", "()Z"⟩ : MethodName)) (z := (⟨"com/example/jetway/jetway/Fetcher$Validators", "statesVersion", "()Z"⟩ : MethodName)) (a := b659) (by decide) (w26 hw) (w27 hw) (w29 hw) (w28 hw) (nf_sel (w29 hw)) f680 (w30 hw) (w6 hw) (rm_st_0 hw (o0 := b659) (j1 := p2) O688 W f680 f681 f682 f683 f684 ge667) (W := 0) (by decide) (by decide) (k' := 21) rfl (n' := 52) rfl (by decide) (by decide) rfl pd_109 (argsL := []) rfl (rest := []) rfl rfl rfl at_191 (q := 194) rfl ?_
          rintro _ T698 _ X699 ⟨rfl, rfl⟩
          refine g_iload C X699 at_194 (q := 196) rfl rfl ?_
          refine g_icN C X699 at_196 (q := 199) rfl (by decide) ?_
          refine g_iconst C X699 at_199 (q := 200) rfl (z := (1 : Int32)) rfl ?_
          refine g_goto C X699 at_200 (by decide) (q := 204) (by decide) ?_
          exact gW_retN C X699 Y686 (own_EL hw) (Or.inl rfl) (z' := 1) (by decide) at_204 (by decide) (by decide) ⟨_, rfl, rfl, trivial⟩
        · refine g_nulN C X695 at_179 (q := 182) rfl ?_
          refine g_iconst C X695 at_182 (q := 183) rfl (z := (1 : Int32)) rfl ?_
          refine g_goto C X695 at_183 (by decide) (q := 187) (by decide) ?_
          refine g_istore C X695 at_187 (q := 189) rfl (L' := #[.val (.int p0), .val (.int p1), .val (.long p2), .second, .val (.int (87 : Int32)), .val (.int (47 : Int32)), .val (.int v7), .val (.ref b697), .val (.ref b515), .val .null, .val (.ref b659), .val (.int (1 : Int32)), .val (.int (0 : Int32)), .val (.int (1 : Int32))]) rfl ?_
          refine g_aload C X695 at_189 (q := 191) rfl rfl rfl ?_
          refine g_callV1 C X695 (y := (⟨"com/example/jetway/jetway/Fetcher$Validators", "statesVersion", "()Z"⟩ : MethodName)) (z := (⟨"com/example/jetway/jetway/Fetcher$Validators", "statesVersion", "()Z"⟩ : MethodName)) (a := b659) (by decide) (w26 hw) (w27 hw) (w29 hw) (w28 hw) (nf_sel (w29 hw)) f680 (w30 hw) (w6 hw) (rm_st_1 hw (o0 := b659) (o1 := b697) (j2 := p2) O688 W f680 f681 f682 f683 f684 ge667) (W := 0) (by decide) (by decide) (k' := 21) rfl (n' := 52) rfl (by decide) (by decide) rfl pd_109 (argsL := []) rfl (rest := []) rfl rfl rfl at_191 (q := 194) rfl ?_
          rintro _ T700 _ X701 ⟨rfl, rfl⟩
          refine g_iload C X701 at_194 (q := 196) rfl rfl ?_
          refine g_icN C X701 at_196 (q := 199) rfl (by decide) ?_
          refine g_iconst C X701 at_199 (q := 200) rfl (z := (1 : Int32)) rfl ?_
          refine g_goto C X701 at_200 (by decide) (q := 204) (by decide) ?_
          exact gW_retN C X701 Y686 (own_EL hw) (Or.inl rfl) (z' := 1) (by decide) at_204 (by decide) (by decide) ⟨_, rfl, rfl, trivial⟩
      · refine g_nonY C X695 at_169 (by decide) (q := 182) (by decide) ?_
        refine g_iconst C X695 at_182 (q := 183) rfl (z := (1 : Int32)) rfl ?_
        refine g_goto C X695 at_183 (by decide) (q := 187) (by decide) ?_
        refine g_istore C X695 at_187 (q := 189) rfl (L' := #[.val (.int p0), .val (.int p1), .val (.long p2), .second, .val (.int (87 : Int32)), .val (.int (47 : Int32)), .val (.int v7), .val v484, .val (.ref b515), .val (.ref b696), .val (.ref b659), .val (.int (1 : Int32)), .val (.int (0 : Int32)), .val (.int (1 : Int32))]) rfl ?_
        refine g_aload C X695 at_189 (q := 191) rfl rfl rfl ?_
        refine g_callV1 C X695 (y := (⟨"com/example/jetway/jetway/Fetcher$Validators", "statesVersion", "()Z"⟩ : MethodName)) (z := (⟨"com/example/jetway/jetway/Fetcher$Validators", "statesVersion", "()Z"⟩ : MethodName)) (a := b659) (by decide) (w26 hw) (w27 hw) (w29 hw) (w28 hw) (nf_sel (w29 hw)) f680 (w30 hw) (w6 hw) (rm_st_2 hw (o0 := b659) (av1 := v484) (j2 := p2) (o3 := b696) O688 W f680 f681 f682 f683 f684 ge667 hr501) (W := 0) (by decide) (by decide) (k' := 21) rfl (n' := 52) rfl (by decide) (by decide) rfl pd_109 (argsL := []) rfl (rest := []) rfl rfl rfl at_191 (q := 194) rfl ?_
        rintro _ T702 _ X703 ⟨rfl, rfl⟩
        refine g_iload C X703 at_194 (q := 196) rfl rfl ?_
        refine g_icN C X703 at_196 (q := 199) rfl (by decide) ?_
        refine g_iconst C X703 at_199 (q := 200) rfl (z := (1 : Int32)) rfl ?_
        refine g_goto C X703 at_200 (by decide) (q := 204) (by decide) ?_
        exact gW_retN C X703 Y686 (own_EL hw) (Or.inl rfl) (z' := 1) (by decide) at_204 (by decide) (by decide) ⟨_, rfl, rfl, trivial⟩
    · refine g_astore C X509 at_73 (q := 75) rfl rfl (L' := #[.val (.int p0), .val (.int p1), .val (.long p2), .second, .val (.int (87 : Int32)), .val (.int (47 : Int32)), .val (.int v7), .val v484, .val (.ref b515), .unset, .unset, .unset, .unset, .unset]) rfl ?_
      refine g_iloadN C X509 at_75 (q := 76) rfl rfl ?_
      refine g_iconst C X509 at_76 (q := 77) rfl (z := (5 : Int32)) rfl ?_
      refine g_iushr C X509 at_77 (q := 78) rfl (z := ((p0.toUInt32 >>> ((5 : Int32) &&& 31).toUInt32).toInt32)) rfl ?_
      refine g_iconst C X509 at_78 (q := 79) rfl (z := (3 : Int32)) rfl ?_
      obtain ⟨v704, ev704⟩ : ∃ z, (((p0.toUInt32 >>> ((5 : Int32) &&& 31).toUInt32).toInt32) &&& (3 : Int32)) = z := ⟨_, rfl⟩
      have hl705 : 0 ≤ v704.toInt := by rw [← ev704]; exact (c_and ((p0.toUInt32 >>> ((5 : Int32) &&& 31).toUInt32).toInt32) (3 : Int32) (by decide)).1
      have hh706 : v704.toInt ≤ 3 := by rw [← ev704]; exact (c_and ((p0.toUInt32 >>> ((5 : Int32) &&& 31).toUInt32).toInt32) (3 : Int32) (by decide)).2
      refine g_iand C X509 at_79 (q := 80) rfl (z := v704) ev704 ?_
      refine g_iload C X509 at_80 (q := 82) rfl rfl ?_
      refine g_iload C X509 at_82 (q := 84) rfl rfl ?_
      refine g_iload C X509 at_84 (q := 86) rfl rfl ?_
      refine gW_callS1 C X509 Y510 (own_EL hw) (y := (⟨"com/example/jetway/jetway/ValidatorsStatesVersionPinLaw", "pick", "(ICCC)Ljava/lang/String;"⟩ : MethodName)) (by decide) (w0 hw) (w1 hw) (w3 hw) (w2 hw) (rm_pick hw (p0 := v704) (p1 := v7) (p2 := (47 : Int32)) (p3 := (87 : Int32)) O514 W hl8 hh9 (by decide) (by decide) (by decide) (by decide)) (W := 0) (by decide) (by decide) (k' := 18) rfl (n' := 36) rfl (by decide) (by decide) rfl pd_73 (argsL := [(.int v704), (.int v7), (.int (47 : Int32)), (.int (87 : Int32))]) rfl (rest := []) rfl rfl rfl at_86 (q := 89) rfl ?_
      rintro v707 T708 h709 vm710 C X711 Y712 R713 ⟨K714, ho715⟩
      have O716 := O514.keep K714 all0
      have hr724 : v707.isRef = true := by rcases ho715 with q | ⟨_, _, q, -⟩ <;> rw [q] <;> rfl
      refine g_astore C X711 at_89 (q := 91) rfl hr724 (L' := #[.val (.int p0), .val (.int p1), .val (.long p2), .second, .val (.int (87 : Int32)), .val (.int (47 : Int32)), .val (.int v7), .val v484, .val (.ref b515), .val v707, .unset, .unset, .unset, .unset]) (by (cases v707 <;> first | exact absurd hr724 Bool.false_ne_true | skip) <;> rfl) ?_
      refine g_new C X711 (w4 hw) (w5 hw) (w6 hw) at_91 (q := 94) rfl (k' := 19) rfl (n' := 40) rfl (by decide) (by decide) ?_
      intro T726 h727 b725 g729 X728 E730 A731 D732
      have ge733 : n0 ≤ b725 := own_ge O716 g729
      have Y734 := Wx.ext Y712 E730
      have O735 := O716.ext E730
      have f736 : Fld Z h727 b725 "com/example/jetway/jetway/Fetcher$Validators" "lastModified" "Ljava/lang/String;" .null := D732 (Or.inr (w19 hw)) (ty := (.object "java/lang/String")) (by decide)
      have f737 : Fld Z h727 b725 "com/example/jetway/jetway/Fetcher$Validators" "entityTag" "Ljava/lang/String;" .null := D732 (Or.inr (w21 hw)) (ty := (.object "java/lang/String")) (by decide)
      have f738 : Fld Z h727 b725 "com/example/jetway/jetway/Fetcher$Validators" "length" "J" (.long (0 : Int64)) := D732 (Or.inr (w23 hw)) (ty := .long) (by decide)
      have f739 : Fld Z h727 b725 "com/example/jetway/jetway/Fetcher$Validators" "versionId" "Ljava/lang/String;" .null := D732 (Or.inr (w25 hw)) (ty := (.object "java/lang/String")) (by decide)
      refine g_dup C X728 at_94 (q := 95) rfl rfl ?_
      refine g_aload C X728 at_95 (q := 97) rfl rfl hr501 ?_
      refine g_aload C X728 at_97 (q := 99) rfl rfl rfl ?_
      refine g_lloadN C X728 at_99 (q := 100) rfl rfl ?_
      refine g_aload C X728 at_100 (q := 102) rfl rfl hr724 ?_
      have f740 := ((E519.keep K714).ext E730)
      have f741 := ((F520.keep K714 all0).ext E730)
      refine gW_callI0 C X728 Y734 (own_EL hw) (y := (⟨"com/example/jetway/jetway/Fetcher$Validators", "<init>", "(Ljava/lang/String;Ljava/lang/String;JLjava/lang/String;)V"⟩ : MethodName)) (a := b725) (by decide) rfl rfl (w7 hw) (w8 hw) (w9 hw) (w6 hw) (rm_init_5 hw (o0 := b725) (o1 := b515) (i2 := v7) (av3 := v484) (j4 := p2) (av5 := v707) O735 W A731 f736 f737 f738 f739 f740 f741 ge733 ge517 (Ne.symm (own_ne (Nat.lt_of_lt_of_le E519.lt K714.1) g729)) hr501 hr724 hl8 hh9) (W := 1) (by decide) (by decide) (k' := 21) rfl (n' := 52) rfl (by decide) (by decide) rfl pd_97 (argsL := [v484, (.ref b515), (.long p2), v707]) rfl (rest := [(.ref b725)]) rfl rfl rfl at_102 (q := 105) rfl ?_
      rintro T742 h744 vm751 C X743 Y752 R753 ⟨K745, f746, f747, f748, f749, f750⟩
      have O754 := O735.keep K745 (allS ge733 all0)
      refine g_astore C X743 at_105 (q := 107) rfl rfl (L' := #[.val (.int p0), .val (.int p1), .val (.long p2), .second, .val (.int (87 : Int32)), .val (.int (47 : Int32)), .val (.int v7), .val v484, .val (.ref b515), .val v707, .val (.ref b725), .unset, .unset, .unset]) rfl ?_
      refine g_aload C X743 at_107 (q := 109) rfl rfl rfl ?_
      refine g_nulN C X743 at_109 (q := 112) rfl ?_
      refine g_aload C X743 at_112 (q := 114) rfl rfl rfl ?_
      have f755 := (f741.keep K745 (allS (NoS.exa A731 (by decide) (w5 hw)) all0))
      refine g_strLen C X743 (own_wordsLen hw) (w32 hw) (w86 hw) (w73 hw) (w75 hw) (w74 hw) f755 (W.1.ext O754.2) W.2.1 (W := 0) (by decide) (by decide) (by decide) (by decide) rfl rfl at_114 (q := 117) rfl ?_
      intro T756 X757
      change Goes p e below _ (T756.setTop (mkF m 117 #[.val (.int p0), .val (.int p1), .val (.long p2), .second, .val (.int (87 : Int32)), .val (.int (47 : Int32)), .val (.int v7), .val v484, .val (.ref b515), .val v707, .val (.ref b725), .unset, .unset, .unset] ((.int (3 : Int32)) :: [])))
      refine g_iconst C X757 at_117 (q := 118) rfl (z := (2 : Int32)) rfl ?_
      refine g_icN C X757 at_118 (q := 121) rfl (by decide) ?_
      refine g_aload C X757 at_121 (q := 123) rfl rfl rfl ?_
      refine g_iconst C X757 at_123 (q := 124) rfl (z := (0 : Int32)) rfl ?_
      refine g_strChr C X757 (own_wordsChN hw) (w32 hw) (w87 hw) (w88 hw) (w90 hw) (w89 hw) f755 (W.1.ext O754.2) W.2.1 (W.2.2.1.ext O754.2) W.2.2.2 (ix := 0) (Nat.le_of_ble_eq_true rfl) rfl (w := (87 : Int32)) rfl (W := 0) (by decide) (by decide) (by decide) (by decide) rfl rfl at_124 (q := 127) rfl ?_
      intro T758 X759
      refine g_bipush C X759 at_127 (q := 129) rfl (z := (87 : Int32)) rfl ?_
      refine g_icN C X759 at_129 (q := 132) rfl (by decide) ?_
      refine g_aload C X759 at_132 (q := 134) rfl rfl rfl ?_
      refine g_iconst C X759 at_134 (q := 135) rfl (z := (1 : Int32)) rfl ?_
      refine g_strChr C X759 (own_wordsChN hw) (w32 hw) (w87 hw) (w88 hw) (w90 hw) (w89 hw) f755 (W.1.ext O754.2) W.2.1 (W.2.2.1.ext O754.2) W.2.2.2 (ix := 1) (Nat.le_of_ble_eq_true rfl) rfl (w := (47 : Int32)) rfl (W := 0) (by decide) (by decide) (by decide) (by decide) rfl rfl at_135 (q := 138) rfl ?_
      intro T760 X761
      refine g_bipush C X761 at_138 (q := 140) rfl (z := (47 : Int32)) rfl ?_
      refine g_icN C X761 at_140 (q := 143) rfl (by decide) ?_
      refine g_iconst C X761 at_143 (q := 144) rfl (z := (1 : Int32)) rfl ?_
      refine g_goto C X761 at_144 (by decide) (q := 148) (by decide) ?_
      refine g_istore C X761 at_148 (q := 150) rfl (L' := #[.val (.int p0), .val (.int p1), .val (.long p2), .second, .val (.int (87 : Int32)), .val (.int (47 : Int32)), .val (.int v7), .val v484, .val (.ref b515), .val v707, .val (.ref b725), .val (.int (1 : Int32)), .unset, .unset]) rfl ?_
      refine g_aload C X761 at_150 (q := 152) rfl rfl rfl ?_
      refine g_nulN C X761 at_152 (q := 155) rfl ?_
      refine g_iload C X761 at_155 (q := 157) rfl rfl ?_
      refine g_ifY C X761 at_157 (by decide) (q := 164) (by decide) (by decide) ?_
      refine g_iconst C X761 at_164 (q := 165) rfl (z := (0 : Int32)) rfl ?_
      refine g_istore C X761 at_165 (q := 167) rfl (L' := #[.val (.int p0), .val (.int p1), .val (.long p2), .second, .val (.int (87 : Int32)), .val (.int (47 : Int32)), .val (.int v7), .val v484, .val (.ref b515), .val v707, .val (.ref b725), .val (.int (1 : Int32)), .val (.int (0 : Int32)), .unset]) rfl ?_
      refine g_aload C X761 at_167 (q := 169) rfl rfl hr724 ?_
      rcases ho715 with rfl | ⟨b762, _, rfl, -⟩
      · refine g_nonN C X761 at_169 (q := 172) rfl ?_
        refine g_iload C X761 at_172 (q := 174) rfl rfl ?_
        refine g_ifN C X761 at_174 (q := 177) rfl (by decide) ?_
        refine g_aload C X761 at_177 (q := 179) rfl rfl hr501 ?_
        rcases ho492 with rfl | ⟨b763, _, rfl, -⟩
        · refine g_nulY C X761 at_179 (by decide) (q := 186) (by decide) ?_
          refine g_iconst C X761 at_186 (q := 187) rfl (z := (0 : Int32)) rfl ?_
          refine g_istore C X761 at_187 (q := 189) rfl (L' := #[.val (.int p0), .val (.int p1), .val (.long p2), .second, .val (.int (87 : Int32)), .val (.int (47 : Int32)), .val (.int v7), .val .null, .val (.ref b515), .val .null, .val (.ref b725), .val (.int (1 : Int32)), .val (.int (0 : Int32)), .val (.int (0 : Int32))]) rfl ?_
          refine g_aload C X761 at_189 (q := 191) rfl rfl rfl ?_
          refine g_callV1 C X761 (y := (⟨"com/example/jetway/jetway/Fetcher$Validators", "statesVersion", "()Z"⟩ : MethodName)) (z := (⟨"com/example/jetway/jetway/Fetcher$Validators", "statesVersion", "()Z"⟩ : MethodName)) (a := b725) (by decide) (w26 hw) (w27 hw) (w29 hw) (w28 hw) (nf_sel (w29 hw)) f746 (w30 hw) (w6 hw) (rm_st_0 hw (o0 := b725) (j1 := p2) O754 W f746 f747 f748 f749 f750 ge733) (W := 0) (by decide) (by decide) (k' := 21) rfl (n' := 52) rfl (by decide) (by decide) rfl pd_109 (argsL := []) rfl (rest := []) rfl rfl rfl at_191 (q := 194) rfl ?_
          rintro _ T764 _ X765 ⟨rfl, rfl⟩
          refine g_iload C X765 at_194 (q := 196) rfl rfl ?_
          refine g_icN C X765 at_196 (q := 199) rfl (by decide) ?_
          refine g_iconst C X765 at_199 (q := 200) rfl (z := (1 : Int32)) rfl ?_
          refine g_goto C X765 at_200 (by decide) (q := 204) (by decide) ?_
          exact gW_retN C X765 Y752 (own_EL hw) (Or.inl rfl) (z' := 1) (by decide) at_204 (by decide) (by decide) ⟨_, rfl, rfl, trivial⟩
        · refine g_nulN C X761 at_179 (q := 182) rfl ?_
          refine g_iconst C X761 at_182 (q := 183) rfl (z := (1 : Int32)) rfl ?_
          refine g_goto C X761 at_183 (by decide) (q := 187) (by decide) ?_
          refine g_istore C X761 at_187 (q := 189) rfl (L' := #[.val (.int p0), .val (.int p1), .val (.long p2), .second, .val (.int (87 : Int32)), .val (.int (47 : Int32)), .val (.int v7), .val (.ref b763), .val (.ref b515), .val .null, .val (.ref b725), .val (.int (1 : Int32)), .val (.int (0 : Int32)), .val (.int (1 : Int32))]) rfl ?_
          refine g_aload C X761 at_189 (q := 191) rfl rfl rfl ?_
          refine g_callV1 C X761 (y := (⟨"com/example/jetway/jetway/Fetcher$Validators", "statesVersion", "()Z"⟩ : MethodName)) (z := (⟨"com/example/jetway/jetway/Fetcher$Validators", "statesVersion", "()Z"⟩ : MethodName)) (a := b725) (by decide) (w26 hw) (w27 hw) (w29 hw) (w28 hw) (nf_sel (w29 hw)) f746 (w30 hw) (w6 hw) (rm_st_1 hw (o0 := b725) (o1 := b763) (j2 := p2) O754 W f746 f747 f748 f749 f750 ge733) (W := 0) (by decide) (by decide) (k' := 21) rfl (n' := 52) rfl (by decide) (by decide) rfl pd_109 (argsL := []) rfl (rest := []) rfl rfl rfl at_191 (q := 194) rfl ?_
          rintro _ T766 _ X767 ⟨rfl, rfl⟩
          refine g_iload C X767 at_194 (q := 196) rfl rfl ?_
          refine g_icN C X767 at_196 (q := 199) rfl (by decide) ?_
          refine g_iconst C X767 at_199 (q := 200) rfl (z := (1 : Int32)) rfl ?_
          refine g_goto C X767 at_200 (by decide) (q := 204) (by decide) ?_
          exact gW_retN C X767 Y752 (own_EL hw) (Or.inl rfl) (z' := 1) (by decide) at_204 (by decide) (by decide) ⟨_, rfl, rfl, trivial⟩
      · refine g_nonY C X761 at_169 (by decide) (q := 182) (by decide) ?_
        refine g_iconst C X761 at_182 (q := 183) rfl (z := (1 : Int32)) rfl ?_
        refine g_goto C X761 at_183 (by decide) (q := 187) (by decide) ?_
        refine g_istore C X761 at_187 (q := 189) rfl (L' := #[.val (.int p0), .val (.int p1), .val (.long p2), .second, .val (.int (87 : Int32)), .val (.int (47 : Int32)), .val (.int v7), .val v484, .val (.ref b515), .val (.ref b762), .val (.ref b725), .val (.int (1 : Int32)), .val (.int (0 : Int32)), .val (.int (1 : Int32))]) rfl ?_
        refine g_aload C X761 at_189 (q := 191) rfl rfl rfl ?_
        refine g_callV1 C X761 (y := (⟨"com/example/jetway/jetway/Fetcher$Validators", "statesVersion", "()Z"⟩ : MethodName)) (z := (⟨"com/example/jetway/jetway/Fetcher$Validators", "statesVersion", "()Z"⟩ : MethodName)) (a := b725) (by decide) (w26 hw) (w27 hw) (w29 hw) (w28 hw) (nf_sel (w29 hw)) f746 (w30 hw) (w6 hw) (rm_st_2 hw (o0 := b725) (av1 := v484) (j2 := p2) (o3 := b762) O754 W f746 f747 f748 f749 f750 ge733 hr501) (W := 0) (by decide) (by decide) (k' := 21) rfl (n' := 52) rfl (by decide) (by decide) rfl pd_109 (argsL := []) rfl (rest := []) rfl rfl rfl at_191 (q := 194) rfl ?_
        rintro _ T768 _ X769 ⟨rfl, rfl⟩
        refine g_iload C X769 at_194 (q := 196) rfl rfl ?_
        refine g_icN C X769 at_196 (q := 199) rfl (by decide) ?_
        refine g_iconst C X769 at_199 (q := 200) rfl (z := (1 : Int32)) rfl ?_
        refine g_goto C X769 at_200 (by decide) (q := 204) (by decide) ?_
        exact gW_retN C X769 Y752 (own_EL hw) (Or.inl rfl) (z' := 1) (by decide) at_204 (by decide) (by decide) ⟨_, rfl, rfl, trivial⟩
set_option maxRecDepth 65536 in
set_option maxHeartbeats 40000000 in
theorem comes_1 {Post : Tables → Env → Array Value → State → Outcome → State → Prop} (hpost : ∀ tb e args s v u, (limb_1_1.after args s (.returned v) u = true ∧ limb_1_2.after args s (.returned v) u = true ∧ True) → ReturnedEndW s (.returned v) u (Jvm.fieldLocs frame_1_writes args s ++ Jvm.arrayLocs frame_1_arrays args s ++ Jvm.staticLocs frame_1_statics s) 32 2240 → Post tb e args s (.returned v) u) :
    ArmFor flags0 classFile x code maxLocals ret World_1 tables_1 room_1 Calls_1 rest_1 Pre_1 Post := by
  intro l hfl _ _ p e ha hc hk s m args below hf hA hF happ hP
  obtain ⟨hcalls, hrest, hpre⟩ := hP
  obtain ⟨-, -, -, hnamed, -, -, -, hat⟩ := (Spec.applies_iff hf).mp happ
  obtain ⟨hg, hn⟩ := and_e (Cond.before_iff.mp (show (Jvm.Cond.and given_1 narrow_1).before args s = true from hpre))
  obtain ⟨y1, y2⟩ := and_e hg
  obtain ⟨y3, y4⟩ := and_e y2
  obtain ⟨y5, y6⟩ := and_e y4
  obtain ⟨u0, u1, u2, rfl⟩ : ∃ u0 u1 u2 : Value, args = #[u0, u1, u2] := by
    have hs : args.size = 3 := by simpa [Cond.value, given_1] using y1
    obtain ⟨L⟩ := args
    match L, hs with
    | [u0, u1, u2], _ => exact ⟨u0, u1, u2, rfl⟩
  have hw := fun d (hd : d ∈ tables_1) => atoms_spec (ws := Jvm.Cond.code x code maxLocals ret :: tables_1) hat d (List.mem_cons_of_mem _ hd)
  have hfit : Fit s := fun {y c} hc i hi => by
    obtain ⟨ha, rfl⟩ := Array.getElem?_eq_some_iff.mp hc
    have q := List.all_eq_true.mp ((Array.all_eq_true_iff_forall_mem.mp hF) _ (Array.getElem_mem ha)) i (List.mem_range.mpr hi)
    simpa [Array.getElem?_eq_getElem hi] using q
  obtain ⟨hsets, hown0⟩ := atoms_of _ (rest_1_c_eq ▸ (show rest_1_c.before _ s = true from hrest))
  have hr0 := Cond.before_iff.mp hown0
  obtain ⟨i0, ei0⟩ := is_v y3
  obtain rfl : u0 = (.int i0) := Option.some.inj ei0
  obtain ⟨i1, ei1⟩ := is_v y5
  obtain rfl : u1 = (.int i1) := Option.some.inj ei1
  obtain ⟨i2, ei2⟩ := isL_v y6
  obtain rfl : u2 = (.long i2) := Option.some.inj ei2
  obtain ⟨cz, ecz⟩ := is_v (Cond.before_iff.mp (hsets _ (List.mem_of_getElem? (i := 1) rfl)))
  have SCz : Sta s s.heap "java/lang/String" "COMPACT_STRINGS" "Z" (.int cz) := Sta.start ecz (Or.inl (hsets _ (List.mem_of_getElem? (i := 0) rfl)))
  have hcz : ¬ cz = 0 := gotF (Cond.eq_ints ecz (Term.int_eval (0))) (not_v (Cond.before_iff.mp (hsets _ (List.mem_of_getElem? (i := 2) rfl))))
  obtain ⟨fm, efm, hfm⟩ := isR_v (Cond.before_iff.mp (hsets _ (List.mem_of_getElem? (i := 8) rfl)))
  have SFm : Sta s s.heap "jdk/internal/util/Preconditions" "SIOOBE_FORMATTER" "Ljava/util/function/BiFunction;" fm := Sta.start efm (Or.inl (hsets _ (List.mem_of_getElem? (i := 7) rfl)))
  have hM := rmLaw (l := l) hw (p0 := i0) (p1 := i1) (p2 := i2) (Old.start s) (show Wd s cz fm from ⟨SCz, hcz, SFm, hfm⟩)
  have hCH : CHv s consts_1 s.vm s.heap := CHv.start (own_EL hw) (fun p hp => hcalls.1 p hp) (hsets _ (List.mem_of_getElem? (i := 2) rfl)) (w48 hw) (w32 hw)
  obtain ⟨n, o, h1, h2, h3, _, L, rfl, ⟨N, _, rfl, rfl, -⟩, -, hq⟩ := hM tables_1 p e ha hc hk s m _ below hf ((Spec.applies_iff_loose hf).mp happ).1 ⟨rfl, State.Warmed39.refl s, rfl, hCH⟩ trivial
  refine ⟨n, _, h1, h2, h3, hpost _ _ _ _ _ _ ⟨Cond.after_iff.mpr rfl, Cond.after_iff.mpr (eq_i res_at (Term.int_eval (1)) rfl), trivial⟩ ⟨hq.1, hq.2.1, hq.2.2.1, (hq.2.2.2.sift fun y hy => Or.inr (N y hy)).mono (by decide) (by decide)⟩⟩
theorem main_1_1 : Claimed_1_1 := comes_1 fun _ _ _ _ _ _ h hF => ⟨h.1, hF⟩
theorem main_1_2 : Claimed_1_2 := comes_1 fun _ _ _ _ _ _ h hF => ⟨h.2.1, hF⟩
end Jvm.Pilot.@@N@@
namespace Jvm.Pilot.@@N@@
open Jvm Jvm.ClassFile Sem Op Lib Jvm.Free Jvm.Stand Jvm.Pilot.@@N@@.Jvm.D
/-! MADE BY PROGRAM (witnessworld.py) out of the Statement's table words and the real class files: 21 classes; the members and pool entries that the words name. The judged class is class 1, her method 2. -/
namespace start1
open Jvm.ClassFile
def u (s : String) : CpInfo := .utf8 (stringToUtf16 s)
/-- a pool by its gaps: so many unusable entries, then the entry; so many at the end -/
def gap : Nat → List CpInfo → List CpInfo
  | 0, r => r
  | n + 1, r => .unusable :: gap n r
def poolList (es : List (Nat × CpInfo)) (last : Nat) : List CpInfo := es.foldr (fun e r => gap e.1 (e.2 :: r)) (gap last [])
def pool (es : List (Nat × CpInfo)) (last : Nat) : Array CpInfo := ⟨poolList es last⟩
def fileOf (pool : Array CpInfo) (this : Nat) (attrs : Array Attribute := #[]) (ms : Array MethodInfo := #[]) (fl : Nat := 33) (sup : Nat := 0) (ifs : Array Nat := #[]) (fds : Array FieldInfo := #[]) : ClassFile where
  minorVersion := 0
  majorVersion := 65
  constantPool := pool
  accessFlags := fl
  thisClass := this
  superClass := sup
  interfaces := ifs
  fields := fds
  methods := ms
  attributes := attrs
def plain (name : String) (sup : Option ClassId) : Class where
  name := name
  kind := .ordinary
  loader := none
  accessFlags := 33
  super := sup
  interfaces := #[]
  cf := none
  fields := #[]
  methods := #[]
  instanceTypes := #[]
  staticTypes := #[]
  resolved := #[]
  callSites := []
  init := .initialized
  statics := none
  mirror := none

def pool0 : Array CpInfo := pool [(5, u "<init>"), (0, u "()V"), (1, .class_ 10), (1, u "java/lang/Object")] 113

def k0c0 : Code := { maxStack := 0, maxLocals := 1, code := object_method_1_code, exceptionTable := #[], attributes := #[] }
def k0m0 : Method := { name := "<init>", desc := "()V", sig := { parameters := [], returnType := none }, accessFlags := 1, code := some k0c0 }
/-- java/lang/Object -/
def k0 : Class := { plain "java/lang/Object" none with
  accessFlags := 33
  interfaces := #[]
  cf := some (fileOf pool0 8 #[] #[{ accessFlags := 1, nameIndex := 5, descriptorIndex := 6, attributes := #[] }] 33 0 #[] #[])
  fields := #[]
  methods := #[k0m0]
  instanceTypes := #[]
  staticTypes := #[]
  resolved := Array.replicate 124 none
  statics := none }

def pool1 : Array CpInfo := pool [(2, .class_ 4), (1, u "java/lang/Object"), (0, u "<init>"), (0, u "()V"), (0, .class_ 8), (0, u "java/lang/String"), (0, .methodref 7 10), (0, .nameAndType 5 11), (0, u "([C)V"), (0, .methodref 13 14), (0, .class_ 15), (0, .nameAndType 16 17), (0, u "com/example/jetway/jetway/ValidatorsStatesVersionPinLaw"), (0, u "pick"), (0, u "(ICCC)Ljava/lang/String;"), (0, .class_ 19), (0, u "com/example/jetway/jetway/Fetcher$Validators"), (0, .methodref 18 21), (0, .nameAndType 5 22), (0, u "(Ljava/lang/String;Ljava/lang/String;JLjava/lang/String;)V"), (0, .methodref 7 24), (0, .nameAndType 25 26), (0, u "length"), (0, u "()I"), (0, .methodref 7 28), (0, .nameAndType 29 30), (0, u "charAt"), (0, u "(I)C"), (0, .methodref 18 32), (0, .nameAndType 33 34), (0, u "statesVersion"), (0, u "()Z"), (3, u "law"), (0, u "(IIJ)Z")] 6

def k1m0 : Method := { name := "<init>", desc := "()V", sig := { parameters := [], returnType := none }, accessFlags := 1, code := none }
def k1c1 : Code := { maxStack := 6, maxLocals := 4, code := method_2_code, exceptionTable := #[], attributes := #[] }
def k1m1 : Method := { name := "pick", desc := "(ICCC)Ljava/lang/String;", sig := { parameters := [.int, .char, .char, .char], returnType := some (.object "java/lang/String") }, accessFlags := 10, code := some k1c1 }
def k1c2 : Code := { maxStack := 7, maxLocals := 14, code := code, exceptionTable := #[], attributes := #[] }
def k1m2 : Method := { name := "law", desc := "(IIJ)Z", sig := { parameters := [.int, .int, .long], returnType := some .boolean }, accessFlags := 9, code := some k1c2 }
/-- com/example/jetway/jetway/ValidatorsStatesVersionPinLaw -/
def k1 : Class := { plain "com/example/jetway/jetway/ValidatorsStatesVersionPinLaw" (some 0) with
  accessFlags := 49
  interfaces := #[]
  cf := some (fileOf pool1 13 #[] #[{ accessFlags := 1, nameIndex := 5, descriptorIndex := 6, attributes := #[] }, { accessFlags := 10, nameIndex := 16, descriptorIndex := 17, attributes := #[] }, { accessFlags := 9, nameIndex := 38, descriptorIndex := 39, attributes := #[] }] 49 2 #[] #[])
  fields := #[]
  methods := #[k1m0, k1m1, k1m2]
  instanceTypes := #[]
  staticTypes := #[]
  resolved := Array.replicate 46 none
  statics := none }

def pool2 : Array CpInfo := pool [(1, .methodref 2 3), (0, .class_ 4), (0, .nameAndType 5 6), (0, u "java/lang/Object"), (0, u "<init>"), (0, u "()V"), (0, .class_ 8), (0, u "java/lang/Record")] 13

def k2c0 : Code := { maxStack := 1, maxLocals := 1, code := jdk_30_method_1_code, exceptionTable := #[], attributes := #[] }
def k2m0 : Method := { name := "<init>", desc := "()V", sig := { parameters := [], returnType := none }, accessFlags := 4, code := some k2c0 }
/-- java/lang/Record -/
def k2 : Class := { plain "java/lang/Record" (some 0) with
  accessFlags := 1057
  interfaces := #[]
  cf := some (fileOf pool2 7 #[] #[{ accessFlags := 4, nameIndex := 5, descriptorIndex := 6, attributes := #[] }] 1057 2 #[] #[])
  fields := #[]
  methods := #[k2m0]
  instanceTypes := #[]
  staticTypes := #[]
  resolved := Array.replicate 22 none
  statics := none }

def pool3 : Array CpInfo := pool [(1, .methodref 2 3), (0, .class_ 4), (0, .nameAndType 5 6), (0, u "java/lang/Record"), (0, u "<init>"), (0, u "()V"), (0, .string 8), (0, u "W/"), (0, .methodref 10 11), (0, .class_ 12), (0, .nameAndType 13 14), (0, u "java/lang/String"), (0, u "startsWith"), (0, u "(Ljava/lang/String;)Z"), (0, .fieldref 16 17), (0, .class_ 18), (0, .nameAndType 19 20), (0, u "com/example/jetway/jetway/Fetcher$Validators"), (0, u "lastModified"), (0, u "Ljava/lang/String;"), (0, .fieldref 16 22), (0, .nameAndType 23 20), (0, u "entityTag"), (0, .fieldref 16 25), (0, .nameAndType 26 27), (0, u "length"), (0, u "J"), (0, .fieldref 16 29), (0, .nameAndType 30 20), (0, u "versionId"), (33, u "(Ljava/lang/String;Ljava/lang/String;JLjava/lang/String;)V"), (4, u "statesVersion"), (0, u "()Z"), (7, .class_ 79), (0, u "com/example/jetway/jetway/Fetcher")] 23

def k3c0 : Code := { maxStack := 3, maxLocals := 6, code := prog_37_method_1_code, exceptionTable := #[], attributes := #[] }
def k3m0 : Method := { name := "<init>", desc := "(Ljava/lang/String;Ljava/lang/String;JLjava/lang/String;)V", sig := { parameters := [(.object "java/lang/String"), (.object "java/lang/String"), .long, (.object "java/lang/String")], returnType := none }, accessFlags := 0, code := some k3c0 }
def k3c1 : Code := { maxStack := 1, maxLocals := 1, code := prog_37_method_2_code, exceptionTable := #[], attributes := #[] }
def k3m1 : Method := { name := "statesVersion", desc := "()Z", sig := { parameters := [], returnType := some .boolean }, accessFlags := 0, code := some k3c1 }
/-- com/example/jetway/jetway/Fetcher$Validators -/
def k3 : Class := { plain "com/example/jetway/jetway/Fetcher$Validators" (some 2) with
  accessFlags := 48
  interfaces := #[]
  cf := some (fileOf pool3 16 #[.nestHost 78] #[{ accessFlags := 0, nameIndex := 5, descriptorIndex := 64, attributes := #[] }, { accessFlags := 0, nameIndex := 69, descriptorIndex := 70, attributes := #[] }] 48 2 #[] #[{ accessFlags := 18, nameIndex := 19, descriptorIndex := 20, attributes := #[] }, { accessFlags := 18, nameIndex := 23, descriptorIndex := 20, attributes := #[] }, { accessFlags := 18, nameIndex := 26, descriptorIndex := 27, attributes := #[] }, { accessFlags := 18, nameIndex := 30, descriptorIndex := 20, attributes := #[] }])
  fields := #[{ name := "lastModified", type := (.object "java/lang/String"), accessFlags := 18, slot := 0, constantValue := 0 }, { name := "entityTag", type := (.object "java/lang/String"), accessFlags := 18, slot := 1, constantValue := 0 }, { name := "length", type := .long, accessFlags := 18, slot := 2, constantValue := 0 }, { name := "versionId", type := (.object "java/lang/String"), accessFlags := 18, slot := 3, constantValue := 0 }]
  methods := #[k3m0, k3m1]
  instanceTypes := #[(.object "java/lang/String"), (.object "java/lang/String"), .long, (.object "java/lang/String")]
  staticTypes := #[]
  resolved := Array.replicate 103 none
  statics := none }

def pool4 : Array CpInfo := pool [(1, .class_ 2), (0, u "java/io/Serializable"), (0, .class_ 4), (0, u "java/lang/Object")] 2

/-- java/io/Serializable -/
def k4 : Class := { plain "java/io/Serializable" (some 0) with
  accessFlags := 1537
  interfaces := #[]
  cf := some (fileOf pool4 1 #[] #[] 1537 3 #[] #[])
  fields := #[]
  methods := #[]
  instanceTypes := #[]
  staticTypes := #[]
  resolved := Array.replicate 7 none
  statics := none }

def pool5 : Array CpInfo := pool [(1, .class_ 2), (0, u "java/lang/Comparable"), (0, .class_ 4), (0, u "java/lang/Object")] 7

/-- java/lang/Comparable -/
def k5 : Class := { plain "java/lang/Comparable" (some 0) with
  accessFlags := 1537
  interfaces := #[]
  cf := some (fileOf pool5 1 #[] #[] 1537 3 #[] #[])
  fields := #[]
  methods := #[]
  instanceTypes := #[]
  staticTypes := #[]
  resolved := Array.replicate 12 none
  statics := none }

def pool6 : Array CpInfo := pool [(2, .class_ 4), (1, u "java/lang/CharSequence"), (42, .class_ 48), (0, u "java/lang/CharSequence$1CodePointIterator"), (10, .class_ 60), (0, u "java/lang/CharSequence$1CharIterator"), (5, .class_ 67), (0, u "java/lang/Object")] 63

/-- java/lang/CharSequence -/
def k6 : Class := { plain "java/lang/CharSequence" (some 0) with
  accessFlags := 1537
  interfaces := #[]
  cf := some (fileOf pool6 2 #[.nestMembers #[47, 59]] #[] 1537 66 #[] #[])
  fields := #[]
  methods := #[]
  instanceTypes := #[]
  staticTypes := #[]
  resolved := Array.replicate 131 none
  statics := none }

def pool7 : Array CpInfo := pool [(1, .class_ 2), (0, u "java/lang/constant/Constable"), (0, .class_ 4), (0, u "java/lang/Object")] 6

/-- java/lang/constant/Constable -/
def k7 : Class := { plain "java/lang/constant/Constable" (some 0) with
  accessFlags := 1537
  interfaces := #[]
  cf := some (fileOf pool7 1 #[] #[] 1537 3 #[] #[])
  fields := #[]
  methods := #[]
  instanceTypes := #[]
  staticTypes := #[]
  resolved := Array.replicate 11 none
  statics := none }

def pool8 : Array CpInfo := pool [(1, .class_ 2), (0, u "java/lang/constant/ConstantDesc"), (0, .class_ 4), (0, u "java/lang/Object")] 32

/-- java/lang/constant/ConstantDesc -/
def k8 : Class := { plain "java/lang/constant/ConstantDesc" (some 0) with
  accessFlags := 1537
  interfaces := #[]
  cf := some (fileOf pool8 1 #[] #[] 1537 3 #[] #[])
  fields := #[]
  methods := #[]
  instanceTypes := #[]
  staticTypes := #[]
  resolved := Array.replicate 37 none
  statics := none }

def pool9 : Array CpInfo := pool [(1, .methodref 2 3), (0, .class_ 4), (0, .nameAndType 5 6), (0, u "java/lang/Object"), (0, u "<init>"), (0, u "()V"), (0, .string 8), (0, u ""), (0, .fieldref 10 11), (0, .class_ 12), (0, .nameAndType 13 14), (0, u "java/lang/String"), (0, u "value"), (0, u "[B"), (0, .fieldref 10 16), (0, .nameAndType 17 18), (0, u "coder"), (0, u "B"), (2, u "hash"), (0, u "I"), (2, u "hashIsZero"), (0, u "Z"), (0, .methodref 10 28), (0, .nameAndType 5 29), (0, u "([CIILjava/lang/Void;)V"), (8, .fieldref 10 39), (0, .nameAndType 40 26), (0, u "COMPACT_STRINGS"), (1, .class_ 44), (1, u "java/lang/StringUTF16"), (0, u "compress"), (1, .methodref 42 48), (0, .nameAndType 49 50), (0, u "coderFromArrayLen"), (0, u "([BI)B"), (56, .class_ 109), (1, u "java/lang/StringLatin1"), (32, u "()Z"), (34, .methodref 42 178), (0, .nameAndType 45 179), (0, u "([CII)[B"), (154, u "()I"), (0, .methodref 10 336), (0, .nameAndType 17 337), (0, u "()B"), (25, u "([BI)C"), (12, u "([BI[BII)I"), (14, u "(II)V"), (35, u "(I)C"), (64, .methodref 10 493), (0, .nameAndType 494 142), (0, u "isLatin1"), (0, .methodref 107 496), (0, .nameAndType 497 363), (0, u "charAt"), (3, u "checkIndex"), (3, .methodref 10 506), (0, .nameAndType 507 334), (0, u "length"), (51, .class_ 561), (1, u "jdk/internal/util/ArraysSupport"), (0, u "mismatch"), (12, .class_ 576), (0, u "java/lang/CharSequence"), (22, u "CASE_INSENSITIVE_ORDER"), (0, u "Ljava/util/Comparator;"), (6, .methodref 559 608), (0, .nameAndType 562 376), (15, .methodref 10 625), (0, .nameAndType 626 627), (0, u "startsWith"), (0, u "(Ljava/lang/String;I)Z"), (382, u "([C)V"), (42, .fieldref 1054 1055), (0, .class_ 1056), (0, .nameAndType 1057 1058), (0, u "jdk/internal/util/Preconditions"), (0, u "SIOOBE_FORMATTER"), (0, u "Ljava/util/function/BiFunction;"), (0, .methodref 1054 1060), (0, .nameAndType 501 1061), (0, u "(IILjava/util/function/BiFunction;)I"), (39, u "serialPersistentFields"), (0, u "[Ljava/io/ObjectStreamField;"), (0, .class_ 1104), (0, u "java/lang/String$CaseInsensitiveComparator"), (1, .class_ 1107), (0, u "java/io/Serializable"), (0, .class_ 1109), (0, u "java/lang/Comparable"), (0, .class_ 1111), (0, u "java/lang/constant/Constable"), (0, .class_ 1113), (0, u "java/lang/constant/ConstantDesc"), (2, u "serialVersionUID"), (0, u "J"), (3, u "REPL"), (0, u "C"), (2, u "LATIN1"), (1, u "UTF16"), (129, u "(Ljava/lang/String;)Z")] 193

def k9m0 : Method := { name := "<init>", desc := "()V", sig := { parameters := [], returnType := none }, accessFlags := 1, code := none }
def k9c1 : Code := { maxStack := 5, maxLocals := 2, code := jdk_42_method_3_code, exceptionTable := #[], attributes := #[] }
def k9m1 : Method := { name := "<init>", desc := "([C)V", sig := { parameters := [(.array .char)], returnType := none }, accessFlags := 1, code := some k9c1 }
def k9c2 : Code := { maxStack := 2, maxLocals := 1, code := jdk_42_method_54_code, exceptionTable := #[], attributes := #[] }
def k9m2 : Method := { name := "length", desc := "()I", sig := { parameters := [], returnType := some .int }, accessFlags := 1, code := some k9c2 }
def k9c3 : Code := { maxStack := 2, maxLocals := 2, code := jdk_42_method_56_code, exceptionTable := #[], attributes := #[] }
def k9m3 : Method := { name := "charAt", desc := "(I)C", sig := { parameters := [.int], returnType := some .char }, accessFlags := 1, code := some k9c3 }
def k9c4 : Code := { maxStack := 5, maxLocals := 8, code := jdk_42_method_75_code, exceptionTable := #[], attributes := #[] }
def k9m4 : Method := { name := "startsWith", desc := "(Ljava/lang/String;I)Z", sig := { parameters := [(.object "java/lang/String"), .int], returnType := some .boolean }, accessFlags := 1, code := some k9c4 }
def k9c5 : Code := { maxStack := 3, maxLocals := 2, code := jdk_42_method_76_code, exceptionTable := #[], attributes := #[] }
def k9m5 : Method := { name := "startsWith", desc := "(Ljava/lang/String;)Z", sig := { parameters := [(.object "java/lang/String")], returnType := some .boolean }, accessFlags := 1, code := some k9c5 }
def k9c6 : Code := { maxStack := 4, maxLocals := 6, code := jdk_42_method_149_code, exceptionTable := #[], attributes := #[] }
def k9m6 : Method := { name := "<init>", desc := "([CIILjava/lang/Void;)V", sig := { parameters := [(.array .char), .int, .int, (.object "java/lang/Void")], returnType := none }, accessFlags := 2, code := some k9c6 }
def k9c7 : Code := { maxStack := 1, maxLocals := 1, code := jdk_42_method_152_code, exceptionTable := #[], attributes := #[] }
def k9m7 : Method := { name := "coder", desc := "()B", sig := { parameters := [], returnType := some .byte }, accessFlags := 0, code := some k9c7 }
def k9c8 : Code := { maxStack := 1, maxLocals := 1, code := jdk_42_method_154_code, exceptionTable := #[], attributes := #[] }
def k9m8 : Method := { name := "isLatin1", desc := "()Z", sig := { parameters := [], returnType := some .boolean }, accessFlags := 0, code := some k9c8 }
def k9c9 : Code := { maxStack := 3, maxLocals := 2, code := jdk_42_method_155_code, exceptionTable := #[], attributes := #[] }
def k9m9 : Method := { name := "checkIndex", desc := "(II)V", sig := { parameters := [.int, .int], returnType := none }, accessFlags := 8, code := some k9c9 }
/-- java/lang/String -/
def k9 : Class := { plain "java/lang/String" (some 0) with
  accessFlags := 49
  interfaces := #[4, 5, 6, 7, 8]
  cf := some (fileOf pool9 10 #[.nestMembers #[1103]] #[{ accessFlags := 1, nameIndex := 5, descriptorIndex := 6, attributes := #[] }, { accessFlags := 1, nameIndex := 5, descriptorIndex := 1010, attributes := #[] }, { accessFlags := 1, nameIndex := 507, descriptorIndex := 334, attributes := #[] }, { accessFlags := 1, nameIndex := 497, descriptorIndex := 427, attributes := #[] }, { accessFlags := 1, nameIndex := 626, descriptorIndex := 627, attributes := #[] }, { accessFlags := 1, nameIndex := 626, descriptorIndex := 1257, attributes := #[] }, { accessFlags := 2, nameIndex := 5, descriptorIndex := 29, attributes := #[] }, { accessFlags := 0, nameIndex := 17, descriptorIndex := 337, attributes := #[] }, { accessFlags := 0, nameIndex := 494, descriptorIndex := 142, attributes := #[] }, { accessFlags := 8, nameIndex := 501, descriptorIndex := 391, attributes := #[] }] 49 2 #[1106, 1108, 575, 1110, 1112] #[{ accessFlags := 18, nameIndex := 13, descriptorIndex := 14, attributes := #[] }, { accessFlags := 18, nameIndex := 17, descriptorIndex := 18, attributes := #[] }, { accessFlags := 2, nameIndex := 21, descriptorIndex := 22, attributes := #[] }, { accessFlags := 2, nameIndex := 25, descriptorIndex := 26, attributes := #[] }, { accessFlags := 26, nameIndex := 1116, descriptorIndex := 1117, attributes := #[] }, { accessFlags := 24, nameIndex := 40, descriptorIndex := 26, attributes := #[] }, { accessFlags := 26, nameIndex := 1101, descriptorIndex := 1102, attributes := #[] }, { accessFlags := 26, nameIndex := 1121, descriptorIndex := 1122, attributes := #[] }, { accessFlags := 25, nameIndex := 599, descriptorIndex := 600, attributes := #[] }, { accessFlags := 24, nameIndex := 1125, descriptorIndex := 18, attributes := #[] }, { accessFlags := 24, nameIndex := 1127, descriptorIndex := 18, attributes := #[] }])
  fields := #[{ name := "value", type := (.array .byte), accessFlags := 18, slot := 0, constantValue := 0 }, { name := "coder", type := .byte, accessFlags := 18, slot := 1, constantValue := 0 }, { name := "hash", type := .int, accessFlags := 2, slot := 2, constantValue := 0 }, { name := "hashIsZero", type := .boolean, accessFlags := 2, slot := 3, constantValue := 0 }, { name := "serialVersionUID", type := .long, accessFlags := 26, slot := 0, constantValue := 0 }, { name := "COMPACT_STRINGS", type := .boolean, accessFlags := 24, slot := 1, constantValue := 0 }, { name := "serialPersistentFields", type := (.array (.object "java/io/ObjectStreamField")), accessFlags := 26, slot := 2, constantValue := 0 }, { name := "REPL", type := .char, accessFlags := 26, slot := 3, constantValue := 0 }, { name := "CASE_INSENSITIVE_ORDER", type := (.object "java/util/Comparator"), accessFlags := 25, slot := 4, constantValue := 0 }, { name := "LATIN1", type := .byte, accessFlags := 24, slot := 5, constantValue := 0 }, { name := "UTF16", type := .byte, accessFlags := 24, slot := 6, constantValue := 0 }]
  methods := #[k9m0, k9m1, k9m2, k9m3, k9m4, k9m5, k9m6, k9m7, k9m8, k9m9]
  instanceTypes := #[(.array .byte), .byte, .int, .boolean]
  staticTypes := #[.long, .boolean, (.array (.object "java/io/ObjectStreamField")), .char, (.object "java/util/Comparator"), .byte, .byte]
  resolved := Array.replicate 1451 none
  statics := some 0 }

def pool10 : Array CpInfo := pool [(6, .class_ 8), (1, u "java/lang/Object"), (0, u "<init>"), (0, u "()V"), (1, .class_ 14), (1, u "java/lang/StringUTF16"), (31, u "$assertionsDisabled"), (0, u "Z"), (13, u "HI_BYTE_SHIFT"), (0, u "I"), (2, u "LO_BYTE_SHIFT"), (49, .methodref 12 116), (0, .nameAndType 117 118), (0, u "compress"), (0, u "([CI[BII)I"), (3, u "([CII)[B"), (138, u "coderFromArrayLen"), (0, u "([BI)B"), (106, .class_ 371), (1, u "java/lang/StringUTF16$LinesSpliterator"), (58, u "MAX_LENGTH"), (196, .class_ 628), (0, u "java/lang/StringUTF16$CodePointsSpliterator"), (0, .class_ 630), (0, u "java/lang/StringUTF16$CharsSpliterator")] 4

def k10m0 : Method := { name := "<init>", desc := "()V", sig := { parameters := [], returnType := none }, accessFlags := 0, code := none }
def k10c1 : Code := { maxStack := 2, maxLocals := 2, code := jdk_52_method_15_code, exceptionTable := #[], attributes := #[] }
def k10m1 : Method := { name := "coderFromArrayLen", desc := "([BI)B", sig := { parameters := [(.array .byte), .int], returnType := some .byte }, accessFlags := 8, code := some k10c1 }
def k10c2 : Code := { maxStack := 5, maxLocals := 6, code := jdk_52_method_16_code, exceptionTable := #[], attributes := #[] }
def k10m2 : Method := { name := "compress", desc := "([CII)[B", sig := { parameters := [(.array .char), .int, .int], returnType := some (.array .byte) }, accessFlags := 9, code := some k10c2 }
def k10c3 : Code := { maxStack := 3, maxLocals := 7, code := jdk_52_method_21_code, exceptionTable := #[], attributes := #[] }
def k10m3 : Method := { name := "compress", desc := "([CI[BII)I", sig := { parameters := [(.array .char), .int, (.array .byte), .int, .int], returnType := some .int }, accessFlags := 9, code := some k10c3 }
/-- java/lang/StringUTF16 -/
def k10 : Class := { plain "java/lang/StringUTF16" (some 0) with
  accessFlags := 48
  interfaces := #[]
  cf := some (fileOf pool10 12 #[.nestMembers #[627, 629, 369]] #[{ accessFlags := 0, nameIndex := 9, descriptorIndex := 10, attributes := #[] }, { accessFlags := 8, nameIndex := 261, descriptorIndex := 262, attributes := #[] }, { accessFlags := 9, nameIndex := 117, descriptorIndex := 122, attributes := #[] }, { accessFlags := 9, nameIndex := 117, descriptorIndex := 118, attributes := #[] }] 48 6 #[] #[{ accessFlags := 26, nameIndex := 61, descriptorIndex := 62, attributes := #[] }, { accessFlags := 26, nameIndex := 65, descriptorIndex := 62, attributes := #[] }, { accessFlags := 24, nameIndex := 430, descriptorIndex := 62, attributes := #[] }, { accessFlags := 4120, nameIndex := 46, descriptorIndex := 47, attributes := #[] }])
  fields := #[{ name := "HI_BYTE_SHIFT", type := .int, accessFlags := 26, slot := 0, constantValue := 0 }, { name := "LO_BYTE_SHIFT", type := .int, accessFlags := 26, slot := 1, constantValue := 0 }, { name := "MAX_LENGTH", type := .int, accessFlags := 24, slot := 2, constantValue := 0 }, { name := "$assertionsDisabled", type := .boolean, accessFlags := 4120, slot := 3, constantValue := 0 }]
  methods := #[k10m0, k10m1, k10m2, k10m3]
  instanceTypes := #[]
  staticTypes := #[.int, .int, .int, .boolean]
  resolved := Array.replicate 635 none
  statics := none }

def pool11 : Array CpInfo := pool [(9, u "<init>"), (6, .class_ 18), (1, u "java/lang/Object"), (0, u "()V"), (1, .class_ 23), (1, u "jdk/internal/util/ArraysSupport"), (0, u "LOG2_ARRAY_LONG_INDEX_SCALE"), (0, u "I"), (2, u "U"), (0, u "Ljdk/internal/misc/Unsafe;"), (8, u "BIG_ENDIAN"), (0, u "Z"), (8, u "LOG2_BYTE_BIT_SIZE"), (4, u "LOG2_ARRAY_INT_INDEX_SCALE"), (54, u "JLA"), (0, u "Ljdk/internal/access/JavaLangAccess;"), (11, u "LOG2_ARRAY_BOOLEAN_INDEX_SCALE"), (9, u "LOG2_ARRAY_BYTE_INDEX_SCALE"), (5, u "LOG2_ARRAY_CHAR_INDEX_SCALE"), (5, u "LOG2_ARRAY_SHORT_INDEX_SCALE"), (5, u "mismatch"), (12, u "LOG2_ARRAY_FLOAT_INDEX_SCALE"), (24, u "LOG2_ARRAY_DOUBLE_INDEX_SCALE"), (89, u "T_BOOLEAN"), (2, u "T_CHAR"), (1, u "T_FLOAT"), (1, u "T_DOUBLE"), (1, u "T_BYTE"), (1, u "T_SHORT"), (1, u "T_INT"), (1, u "T_LONG"), (1, u "SOFT_MAX_ARRAY_LENGTH"), (42, u "([BI[BII)I")] 40

def k11m0 : Method := { name := "<init>", desc := "()V", sig := { parameters := [], returnType := none }, accessFlags := 2, code := none }
def k11c1 : Code := { maxStack := 8, maxLocals := 8, code := jdk_48_method_14_code, exceptionTable := #[], attributes := #[] }
def k11m1 : Method := { name := "mismatch", desc := "([BI[BII)I", sig := { parameters := [(.array .byte), .int, (.array .byte), .int, .int], returnType := some .int }, accessFlags := 9, code := some k11c1 }
/-- jdk/internal/util/ArraysSupport -/
def k11 : Class := { plain "jdk/internal/util/ArraysSupport" (some 0) with
  accessFlags := 33
  interfaces := #[]
  cf := some (fileOf pool11 21 #[] #[{ accessFlags := 2, nameIndex := 9, descriptorIndex := 19, attributes := #[] }, { accessFlags := 9, nameIndex := 149, descriptorIndex := 337, attributes := #[] }] 33 16 #[] #[{ accessFlags := 24, nameIndex := 28, descriptorIndex := 29, attributes := #[] }, { accessFlags := 26, nameIndex := 38, descriptorIndex := 39, attributes := #[] }, { accessFlags := 25, nameIndex := 121, descriptorIndex := 25, attributes := #[] }, { accessFlags := 25, nameIndex := 131, descriptorIndex := 25, attributes := #[] }, { accessFlags := 25, nameIndex := 137, descriptorIndex := 25, attributes := #[] }, { accessFlags := 25, nameIndex := 143, descriptorIndex := 25, attributes := #[] }, { accessFlags := 25, nameIndex := 53, descriptorIndex := 25, attributes := #[] }, { accessFlags := 25, nameIndex := 24, descriptorIndex := 25, attributes := #[] }, { accessFlags := 25, nameIndex := 162, descriptorIndex := 25, attributes := #[] }, { accessFlags := 25, nameIndex := 187, descriptorIndex := 25, attributes := #[] }, { accessFlags := 26, nameIndex := 48, descriptorIndex := 25, attributes := #[] }, { accessFlags := 25, nameIndex := 277, descriptorIndex := 25, attributes := #[] }, { accessFlags := 25, nameIndex := 280, descriptorIndex := 25, attributes := #[] }, { accessFlags := 25, nameIndex := 282, descriptorIndex := 25, attributes := #[] }, { accessFlags := 25, nameIndex := 284, descriptorIndex := 25, attributes := #[] }, { accessFlags := 25, nameIndex := 286, descriptorIndex := 25, attributes := #[] }, { accessFlags := 25, nameIndex := 288, descriptorIndex := 25, attributes := #[] }, { accessFlags := 25, nameIndex := 290, descriptorIndex := 25, attributes := #[] }, { accessFlags := 25, nameIndex := 292, descriptorIndex := 25, attributes := #[] }, { accessFlags := 26, nameIndex := 108, descriptorIndex := 109, attributes := #[] }, { accessFlags := 25, nameIndex := 294, descriptorIndex := 25, attributes := #[] }])
  fields := #[{ name := "U", type := (.object "jdk/internal/misc/Unsafe"), accessFlags := 24, slot := 0, constantValue := 0 }, { name := "BIG_ENDIAN", type := .boolean, accessFlags := 26, slot := 1, constantValue := 0 }, { name := "LOG2_ARRAY_BOOLEAN_INDEX_SCALE", type := .int, accessFlags := 25, slot := 2, constantValue := 0 }, { name := "LOG2_ARRAY_BYTE_INDEX_SCALE", type := .int, accessFlags := 25, slot := 3, constantValue := 0 }, { name := "LOG2_ARRAY_CHAR_INDEX_SCALE", type := .int, accessFlags := 25, slot := 4, constantValue := 0 }, { name := "LOG2_ARRAY_SHORT_INDEX_SCALE", type := .int, accessFlags := 25, slot := 5, constantValue := 0 }, { name := "LOG2_ARRAY_INT_INDEX_SCALE", type := .int, accessFlags := 25, slot := 6, constantValue := 0 }, { name := "LOG2_ARRAY_LONG_INDEX_SCALE", type := .int, accessFlags := 25, slot := 7, constantValue := 0 }, { name := "LOG2_ARRAY_FLOAT_INDEX_SCALE", type := .int, accessFlags := 25, slot := 8, constantValue := 0 }, { name := "LOG2_ARRAY_DOUBLE_INDEX_SCALE", type := .int, accessFlags := 25, slot := 9, constantValue := 0 }, { name := "LOG2_BYTE_BIT_SIZE", type := .int, accessFlags := 26, slot := 10, constantValue := 0 }, { name := "T_BOOLEAN", type := .int, accessFlags := 25, slot := 11, constantValue := 0 }, { name := "T_CHAR", type := .int, accessFlags := 25, slot := 12, constantValue := 0 }, { name := "T_FLOAT", type := .int, accessFlags := 25, slot := 13, constantValue := 0 }, { name := "T_DOUBLE", type := .int, accessFlags := 25, slot := 14, constantValue := 0 }, { name := "T_BYTE", type := .int, accessFlags := 25, slot := 15, constantValue := 0 }, { name := "T_SHORT", type := .int, accessFlags := 25, slot := 16, constantValue := 0 }, { name := "T_INT", type := .int, accessFlags := 25, slot := 17, constantValue := 0 }, { name := "T_LONG", type := .int, accessFlags := 25, slot := 18, constantValue := 0 }, { name := "JLA", type := (.object "jdk/internal/access/JavaLangAccess"), accessFlags := 26, slot := 19, constantValue := 0 }, { name := "SOFT_MAX_ARRAY_LENGTH", type := .int, accessFlags := 25, slot := 20, constantValue := 0 }]
  methods := #[k11m0, k11m1]
  instanceTypes := #[]
  staticTypes := #[(.object "jdk/internal/misc/Unsafe"), .boolean, .int, .int, .int, .int, .int, .int, .int, .int, .int, .int, .int, .int, .int, .int, .int, .int, .int, (.object "jdk/internal/access/JavaLangAccess"), .int]
  resolved := Array.replicate 378 none
  statics := none }

def pool12 : Array CpInfo := pool [(1, .class_ 2), (0, u "java/lang/String"), (1, .class_ 6), (1, u "java/lang/Object"), (0, u "<init>"), (0, u "()V"), (0, .methodref 1 10), (0, .nameAndType 11 12), (0, u "checkIndex"), (0, u "(II)V"), (1, .class_ 16), (1, u "java/lang/StringLatin1"), (36, u "([BI)C"), (67, u "$assertionsDisabled"), (0, u "Z"), (98, .class_ 223), (1, u "java/lang/StringLatin1$LinesSpliterator"), (28, u "charAt"), (137, .class_ 391), (0, u "java/lang/StringLatin1$CharsSpliterator")] 3

def k12m0 : Method := { name := "<init>", desc := "()V", sig := { parameters := [], returnType := none }, accessFlags := 0, code := none }
def k12c1 : Code := { maxStack := 2, maxLocals := 2, code := jdk_43_method_2_code, exceptionTable := #[], attributes := #[] }
def k12m1 : Method := { name := "charAt", desc := "([BI)C", sig := { parameters := [(.array .byte), .int], returnType := some .char }, accessFlags := 9, code := some k12c1 }
/-- java/lang/StringLatin1 -/
def k12 : Class := { plain "java/lang/StringLatin1" (some 0) with
  accessFlags := 48
  interfaces := #[]
  cf := some (fileOf pool12 14 #[.nestMembers #[390, 221]] #[{ accessFlags := 0, nameIndex := 7, descriptorIndex := 8, attributes := #[] }, { accessFlags := 9, nameIndex := 252, descriptorIndex := 53, attributes := #[] }] 48 4 #[] #[{ accessFlags := 4120, nameIndex := 121, descriptorIndex := 122, attributes := #[] }])
  fields := #[{ name := "$assertionsDisabled", type := .boolean, accessFlags := 4120, slot := 0, constantValue := 0 }]
  methods := #[k12m0, k12m1]
  instanceTypes := #[]
  staticTypes := #[.boolean]
  resolved := Array.replicate 395 none
  statics := none }

def pool13 : Array CpInfo := pool [(2, .class_ 4), (1, u "java/lang/Object"), (0, u "<init>"), (0, u "()V"), (17, .class_ 26), (1, u "jdk/internal/util/Preconditions"), (6, u "checkIndex"), (21, .class_ 56), (0, u "jdk/internal/util/Preconditions$4"), (57, .class_ 115), (0, u "jdk/internal/util/Preconditions$1"), (7, u "SIOOBE_FORMATTER"), (0, u "Ljava/util/function/BiFunction;"), (0, .class_ 126), (0, u "jdk/internal/util/Preconditions$2"), (3, u "AIOOBE_FORMATTER"), (0, .class_ 132), (0, u "jdk/internal/util/Preconditions$3"), (3, u "IOOBE_FORMATTER"), (41, u "(IILjava/util/function/BiFunction;)I")] 15

def k13m0 : Method := { name := "<init>", desc := "()V", sig := { parameters := [], returnType := none }, accessFlags := 1, code := none }
def k13c1 : Code := { maxStack := 3, maxLocals := 3, code := jdk_41_method_11_code, exceptionTable := #[], attributes := #[] }
def k13m1 : Method := { name := "checkIndex", desc := "(IILjava/util/function/BiFunction;)I", sig := { parameters := [.int, .int, (.object "java/util/function/BiFunction")], returnType := some .int }, accessFlags := 9, code := some k13c1 }
/-- jdk/internal/util/Preconditions -/
def k13 : Class := { plain "jdk/internal/util/Preconditions" (some 0) with
  accessFlags := 33
  interfaces := #[]
  cf := some (fileOf pool13 24 #[.nestMembers #[55, 131, 125, 114]] #[{ accessFlags := 1, nameIndex := 5, descriptorIndex := 6, attributes := #[] }, { accessFlags := 9, nameIndex := 33, descriptorIndex := 178, attributes := #[] }] 33 2 #[] #[{ accessFlags := 25, nameIndex := 123, descriptorIndex := 124, attributes := #[] }, { accessFlags := 25, nameIndex := 130, descriptorIndex := 124, attributes := #[] }, { accessFlags := 25, nameIndex := 136, descriptorIndex := 124, attributes := #[] }])
  fields := #[{ name := "SIOOBE_FORMATTER", type := (.object "java/util/function/BiFunction"), accessFlags := 25, slot := 0, constantValue := 0 }, { name := "AIOOBE_FORMATTER", type := (.object "java/util/function/BiFunction"), accessFlags := 25, slot := 1, constantValue := 0 }, { name := "IOOBE_FORMATTER", type := (.object "java/util/function/BiFunction"), accessFlags := 25, slot := 2, constantValue := 0 }]
  methods := #[k13m0, k13m1]
  instanceTypes := #[]
  staticTypes := #[(.object "java/util/function/BiFunction"), (.object "java/util/function/BiFunction"), (.object "java/util/function/BiFunction")]
  resolved := Array.replicate 194 none
  statics := some 1 }

def pool14 : Array CpInfo := pool [(1, u "java/lang/Cloneable"), (0, .class_ 1), (0, u "java/lang/Object"), (0, .class_ 3)] 3

/-- java/lang/Cloneable -/
def k14 : Class := { plain "java/lang/Cloneable" (some 0) with
  accessFlags := 1537
  interfaces := #[]
  cf := some (fileOf pool14 2 #[] #[] 1537 4 #[] #[])
  fields := #[]
  methods := #[]
  instanceTypes := #[]
  staticTypes := #[]
  resolved := Array.replicate 8 none
  statics := none }

/-- the primitive byte -/
def k15 : Class := { plain "byte" none with kind := .primitive 'B', accessFlags := 0x411 }
/-- [B -/
def k16 : Class := { plain "[B" (some 0) with kind := .array 15 .byte, interfaces := #[14, 4], accessFlags := 1041 }

/-- the primitive char -/
def k17 : Class := { plain "char" none with kind := .primitive 'C', accessFlags := 0x411 }
/-- [C -/
def k18 : Class := { plain "[C" (some 0) with kind := .array 17 .char, interfaces := #[14, 4], accessFlags := 1041 }

/-- the primitive int -/
def k19 : Class := { plain "int" none with kind := .primitive 'I', accessFlags := 0x411 }
/-- [I -/
def k20 : Class := { plain "[I" (some 0) with kind := .array 19 .int, interfaces := #[14, 4], accessFlags := 1041 }

def heap : Heap := #[{ cls := 9, slots := #[.long 0, .int 1, .null, .int 0, .null, .int 0, .int 0], vm := .statics 9 },
  { cls := 13, slots := #[.null, .null, .null], vm := .statics 13 }]
def classes : Array Class := #[k0, k1, k2, k3, k4, k5, k6, k7, k8, k9, k10, k11, k12, k13, k14, k15, k16, k17, k18, k19, k20]
def interned : List (Array UInt16 × Addr) := []
def slotsUsed : Nat := 10
def theMethod : MethodId := ⟨1, 2⟩
def args0 : Array Value := #[.int 5, .int 5, .long 5]
def aboutOver (below : List Frame) : State where
  vm := { classes := classes, interned := interned.toArray }
  heap := heap
  slotsUsed := slotsUsed
  threads := #[{ frames := .invoking theMethod args0 :: below }]
def below0 : List Frame := [.native { method := ⟨0, 0⟩, args := #[] }]
def about1 : State := aboutOver below0
def p0 : Program := .bare "" "" ""
def e0 : Env := launch0.env 0 0 0
theorem w_frames : about1.frames = Frame.invoking theMethod args0 :: below0 := rfl
set_option maxRecDepth 65536 in
theorem w_args : argsFit about1.vm theMethod args0 = true := by decide +kernel
set_option maxRecDepth 65536 in
theorem w_heap : heapFits about1 = true := by decide +kernel
set_option maxRecDepth 65536 in
theorem w_runnable : about1.curStatus? = some .runnable := by decide +kernel
set_option maxRecDepth 65536 in
theorem w_alone : about1.alone = true := by decide +kernel
set_option maxRecDepth 65536 in
theorem w_named : about1.methodNamed? x = some theMethod := by decide +kernel
set_option maxRecDepth 65536 in
theorem w_hears : about1.hears theMethod below0 = true := by decide +kernel
set_option maxRecDepth 65536 in
theorem w_ripe : about1.ripe theMethod args0 below0 = true := by decide +kernel
theorem w_running : about1.status = .running := rfl
set_option maxRecDepth 65536 in
theorem w_room : about1.hasRoom e0.platform room_1 = true :=
  launch0.hasRoom_least _ room_1 (by decide +kernel) (by decide +kernel) (by decide +kernel) (by decide +kernel) (by decide +kernel) (by decide +kernel)
theorem allAtoms_all (ts : List Jvm.Cond) (a : Array Jvm.Value) (st : Jvm.State) : (allAtoms ts).before a st = ts.all (fun c => c.before a st) := by
  induction ts with
  | nil => rfl
  | cons c t ih =>
    show (Jvm.Cond.and c (allAtoms t)).before a st = _
    rw [Jvm.Cond.before_and, ih, List.all_cons]
def words1 : List Jvm.Cond := Jvm.Cond.code x code maxLocals ret :: tables_1
/-- a 'code' word, met by the world's own term for the bytes: nothing is compared byte by byte -/
theorem code_word {y : MethodName} {bytes : ByteArray} {mx : Nat} {rt : Option FieldType} {a : Array Value} {s : State} {m : MethodId} {meth : Method} {c : Code} (h1 : s.methodNamed? y = some m) (h2 : s.vm.method? m = some meth) (h3 : meth.code = some c) (h4 : c.code = bytes)
    (h5 : (c.maxLocals == mx && c.exceptionTable.isEmpty && decide (c.maxStack ≤ mostOperands) && decide (meth.sig.returnType = rt) && !meth.locks && decide (parseMethodDescriptor y.desc = some meth.sig)) = true) : (Jvm.Cond.code y bytes mx rt).before a s = true := by
  simp only [Bool.and_eq_true, beq_iff_eq, Bool.not_eq_true', decide_eq_true_eq] at h5
  obtain ⟨⟨⟨⟨⟨g1, g2⟩, g3⟩, g4⟩, g5⟩, g6⟩ := h5
  simp [Cond.before, Cond.holds, Cond.value, h1, h2, h3, h4, g1, g2, g3, g4, g5, g6]
def isCode : Jvm.Cond → Bool
  | .code _ _ _ _ => true
  | _ => false
theorem all_split {L : List Jvm.Cond} {P : Jvm.Cond → Bool} (h1 : L.all (fun c => isCode c || P c) = true) (h2 : ∀ c ∈ L.filter isCode, P c = true) : L.all P = true := by
  refine List.all_eq_true.mpr fun c hc => ?_
  have h := List.all_eq_true.mp h1 c hc
  rcases Bool.eq_false_or_eq_true (isCode c) with hi | hi
  · exact h2 c (List.mem_filter.mpr ⟨hc, hi⟩)
  · simpa [hi] using h
set_option maxRecDepth 65536 in
theorem w_c0 : (Jvm.Cond.code x code maxLocals ret).before args0 about1 = true := code_word (m := ⟨1, 2⟩) (meth := k1m2) (c := k1c2) (by decide +kernel) rfl rfl rfl (by decide +kernel)
set_option maxRecDepth 65536 in
theorem w_c1 : (Jvm.Cond.code ({ cls := "com/example/jetway/jetway/ValidatorsStatesVersionPinLaw", name := "pick", desc := "(ICCC)Ljava/lang/String;" } : Jvm.MethodName) method_2_code (4 : Nat) (Option.some (Jvm.ClassFile.FieldType.object "java/lang/String"))).before args0 about1 = true := code_word (m := ⟨1, 1⟩) (meth := k1m1) (c := k1c1) (by decide +kernel) rfl rfl rfl (by decide +kernel)
set_option maxRecDepth 65536 in
theorem w_c2 : (Jvm.Cond.code ({ cls := "com/example/jetway/jetway/Fetcher$Validators", name := "<init>", desc := "(Ljava/lang/String;Ljava/lang/String;JLjava/lang/String;)V" } : Jvm.MethodName) prog_37_method_1_code (6 : Nat) (Option.none : Option Jvm.ClassFile.FieldType)).before args0 about1 = true := code_word (m := ⟨3, 0⟩) (meth := k3m0) (c := k3c0) (by decide +kernel) rfl rfl rfl (by decide +kernel)
set_option maxRecDepth 65536 in
theorem w_c3 : (Jvm.Cond.code ({ cls := "java/lang/Record", name := "<init>", desc := "()V" } : Jvm.MethodName) jdk_30_method_1_code (1 : Nat) (Option.none : Option Jvm.ClassFile.FieldType)).before args0 about1 = true := code_word (m := ⟨2, 0⟩) (meth := k2m0) (c := k2c0) (by decide +kernel) rfl rfl rfl (by decide +kernel)
set_option maxRecDepth 65536 in
theorem w_c4 : (Jvm.Cond.code ({ cls := "java/lang/Object", name := "<init>", desc := "()V" } : Jvm.MethodName) object_method_1_code (1 : Nat) (Option.none : Option Jvm.ClassFile.FieldType)).before args0 about1 = true := code_word (m := ⟨0, 0⟩) (meth := k0m0) (c := k0c0) (by decide +kernel) rfl rfl rfl (by decide +kernel)
set_option maxRecDepth 65536 in
theorem w_c5 : (Jvm.Cond.code ({ cls := "com/example/jetway/jetway/Fetcher$Validators", name := "statesVersion", desc := "()Z" } : Jvm.MethodName) prog_37_method_2_code (1 : Nat) (Option.some Jvm.ClassFile.FieldType.boolean)).before args0 about1 = true := code_word (m := ⟨3, 1⟩) (meth := k3m1) (c := k3c1) (by decide +kernel) rfl rfl rfl (by decide +kernel)
set_option maxRecDepth 65536 in
theorem w_c6 : (Jvm.Cond.code ({ cls := "java/lang/String", name := "<init>", desc := "([C)V" } : Jvm.MethodName) jdk_42_method_3_code (2 : Nat) (Option.none : Option Jvm.ClassFile.FieldType)).before args0 about1 = true := code_word (m := ⟨9, 1⟩) (meth := k9m1) (c := k9c1) (by decide +kernel) rfl rfl rfl (by decide +kernel)
set_option maxRecDepth 65536 in
theorem w_c7 : (Jvm.Cond.code ({ cls := "java/lang/String", name := "<init>", desc := "([CIILjava/lang/Void;)V" } : Jvm.MethodName) jdk_42_method_149_code (6 : Nat) (Option.none : Option Jvm.ClassFile.FieldType)).before args0 about1 = true := code_word (m := ⟨9, 6⟩) (meth := k9m6) (c := k9c6) (by decide +kernel) rfl rfl rfl (by decide +kernel)
set_option maxRecDepth 65536 in
theorem w_c8 : (Jvm.Cond.code ({ cls := "java/lang/StringUTF16", name := "compress", desc := "([CII)[B" } : Jvm.MethodName) jdk_52_method_16_code (6 : Nat) (Option.some (Jvm.ClassFile.FieldType.array Jvm.ClassFile.FieldType.byte))).before args0 about1 = true := code_word (m := ⟨10, 2⟩) (meth := k10m2) (c := k10c2) (by decide +kernel) rfl rfl rfl (by decide +kernel)
set_option maxRecDepth 65536 in
theorem w_c9 : (Jvm.Cond.code ({ cls := "java/lang/StringUTF16", name := "compress", desc := "([CI[BII)I" } : Jvm.MethodName) jdk_52_method_21_code (7 : Nat) (Option.some Jvm.ClassFile.FieldType.int)).before args0 about1 = true := code_word (m := ⟨10, 3⟩) (meth := k10m3) (c := k10c3) (by decide +kernel) rfl rfl rfl (by decide +kernel)
set_option maxRecDepth 65536 in
theorem w_c10 : (Jvm.Cond.code ({ cls := "java/lang/StringUTF16", name := "coderFromArrayLen", desc := "([BI)B" } : Jvm.MethodName) jdk_52_method_15_code (2 : Nat) (Option.some Jvm.ClassFile.FieldType.byte)).before args0 about1 = true := code_word (m := ⟨10, 1⟩) (meth := k10m1) (c := k10c1) (by decide +kernel) rfl rfl rfl (by decide +kernel)
set_option maxRecDepth 65536 in
theorem w_c11 : (Jvm.Cond.code ({ cls := "java/lang/String", name := "startsWith", desc := "(Ljava/lang/String;)Z" } : Jvm.MethodName) jdk_42_method_76_code (2 : Nat) (Option.some Jvm.ClassFile.FieldType.boolean)).before args0 about1 = true := code_word (m := ⟨9, 5⟩) (meth := k9m5) (c := k9c5) (by decide +kernel) rfl rfl rfl (by decide +kernel)
set_option maxRecDepth 65536 in
theorem w_c12 : (Jvm.Cond.code ({ cls := "java/lang/String", name := "startsWith", desc := "(Ljava/lang/String;I)Z" } : Jvm.MethodName) jdk_42_method_75_code (8 : Nat) (Option.some Jvm.ClassFile.FieldType.boolean)).before args0 about1 = true := code_word (m := ⟨9, 4⟩) (meth := k9m4) (c := k9c4) (by decide +kernel) rfl rfl rfl (by decide +kernel)
set_option maxRecDepth 65536 in
theorem w_c13 : (Jvm.Cond.code ({ cls := "java/lang/String", name := "length", desc := "()I" } : Jvm.MethodName) jdk_42_method_54_code (1 : Nat) (Option.some Jvm.ClassFile.FieldType.int)).before args0 about1 = true := code_word (m := ⟨9, 2⟩) (meth := k9m2) (c := k9c2) (by decide +kernel) rfl rfl rfl (by decide +kernel)
set_option maxRecDepth 65536 in
theorem w_c14 : (Jvm.Cond.code ({ cls := "java/lang/String", name := "coder", desc := "()B" } : Jvm.MethodName) jdk_42_method_152_code (1 : Nat) (Option.some Jvm.ClassFile.FieldType.byte)).before args0 about1 = true := code_word (m := ⟨9, 7⟩) (meth := k9m7) (c := k9c7) (by decide +kernel) rfl rfl rfl (by decide +kernel)
set_option maxRecDepth 65536 in
theorem w_c15 : (Jvm.Cond.code ({ cls := "jdk/internal/util/ArraysSupport", name := "mismatch", desc := "([BI[BII)I" } : Jvm.MethodName) jdk_48_method_14_code (8 : Nat) (Option.some Jvm.ClassFile.FieldType.int)).before args0 about1 = true := code_word (m := ⟨11, 1⟩) (meth := k11m1) (c := k11c1) (by decide +kernel) rfl rfl rfl (by decide +kernel)
set_option maxRecDepth 65536 in
theorem w_c16 : (Jvm.Cond.code ({ cls := "java/lang/String", name := "charAt", desc := "(I)C" } : Jvm.MethodName) jdk_42_method_56_code (2 : Nat) (Option.some Jvm.ClassFile.FieldType.char)).before args0 about1 = true := code_word (m := ⟨9, 3⟩) (meth := k9m3) (c := k9c3) (by decide +kernel) rfl rfl rfl (by decide +kernel)
set_option maxRecDepth 65536 in
theorem w_c17 : (Jvm.Cond.code ({ cls := "java/lang/String", name := "isLatin1", desc := "()Z" } : Jvm.MethodName) jdk_42_method_154_code (1 : Nat) (Option.some Jvm.ClassFile.FieldType.boolean)).before args0 about1 = true := code_word (m := ⟨9, 8⟩) (meth := k9m8) (c := k9c8) (by decide +kernel) rfl rfl rfl (by decide +kernel)
set_option maxRecDepth 65536 in
theorem w_c18 : (Jvm.Cond.code ({ cls := "java/lang/StringLatin1", name := "charAt", desc := "([BI)C" } : Jvm.MethodName) jdk_43_method_2_code (2 : Nat) (Option.some Jvm.ClassFile.FieldType.char)).before args0 about1 = true := code_word (m := ⟨12, 1⟩) (meth := k12m1) (c := k12c1) (by decide +kernel) rfl rfl rfl (by decide +kernel)
set_option maxRecDepth 65536 in
theorem w_c19 : (Jvm.Cond.code ({ cls := "java/lang/String", name := "checkIndex", desc := "(II)V" } : Jvm.MethodName) jdk_42_method_155_code (2 : Nat) (Option.none : Option Jvm.ClassFile.FieldType)).before args0 about1 = true := code_word (m := ⟨9, 9⟩) (meth := k9m9) (c := k9c9) (by decide +kernel) rfl rfl rfl (by decide +kernel)
set_option maxRecDepth 65536 in
theorem w_c20 : (Jvm.Cond.code ({ cls := "jdk/internal/util/Preconditions", name := "checkIndex", desc := "(IILjava/util/function/BiFunction;)I" } : Jvm.MethodName) jdk_41_method_11_code (3 : Nat) (Option.some Jvm.ClassFile.FieldType.int)).before args0 about1 = true := code_word (m := ⟨13, 1⟩) (meth := k13m1) (c := k13c1) (by decide +kernel) rfl rfl rfl (by decide +kernel)
def codes1 : List Jvm.Cond := [Jvm.Cond.code x code maxLocals ret, Jvm.Cond.code ({ cls := "com/example/jetway/jetway/ValidatorsStatesVersionPinLaw", name := "pick", desc := "(ICCC)Ljava/lang/String;" } : Jvm.MethodName) method_2_code (4 : Nat) (Option.some (Jvm.ClassFile.FieldType.object "java/lang/String")), Jvm.Cond.code ({ cls := "com/example/jetway/jetway/Fetcher$Validators", name := "<init>", desc := "(Ljava/lang/String;Ljava/lang/String;JLjava/lang/String;)V" } : Jvm.MethodName) prog_37_method_1_code (6 : Nat) (Option.none : Option Jvm.ClassFile.FieldType), Jvm.Cond.code ({ cls := "java/lang/Record", name := "<init>", desc := "()V" } : Jvm.MethodName) jdk_30_method_1_code (1 : Nat) (Option.none : Option Jvm.ClassFile.FieldType), Jvm.Cond.code ({ cls := "java/lang/Object", name := "<init>", desc := "()V" } : Jvm.MethodName) object_method_1_code (1 : Nat) (Option.none : Option Jvm.ClassFile.FieldType), Jvm.Cond.code ({ cls := "com/example/jetway/jetway/Fetcher$Validators", name := "statesVersion", desc := "()Z" } : Jvm.MethodName) prog_37_method_2_code (1 : Nat) (Option.some Jvm.ClassFile.FieldType.boolean), Jvm.Cond.code ({ cls := "java/lang/String", name := "<init>", desc := "([C)V" } : Jvm.MethodName) jdk_42_method_3_code (2 : Nat) (Option.none : Option Jvm.ClassFile.FieldType), Jvm.Cond.code ({ cls := "java/lang/String", name := "<init>", desc := "([CIILjava/lang/Void;)V" } : Jvm.MethodName) jdk_42_method_149_code (6 : Nat) (Option.none : Option Jvm.ClassFile.FieldType), Jvm.Cond.code ({ cls := "java/lang/StringUTF16", name := "compress", desc := "([CII)[B" } : Jvm.MethodName) jdk_52_method_16_code (6 : Nat) (Option.some (Jvm.ClassFile.FieldType.array Jvm.ClassFile.FieldType.byte)), Jvm.Cond.code ({ cls := "java/lang/StringUTF16", name := "compress", desc := "([CI[BII)I" } : Jvm.MethodName) jdk_52_method_21_code (7 : Nat) (Option.some Jvm.ClassFile.FieldType.int), Jvm.Cond.code ({ cls := "java/lang/StringUTF16", name := "coderFromArrayLen", desc := "([BI)B" } : Jvm.MethodName) jdk_52_method_15_code (2 : Nat) (Option.some Jvm.ClassFile.FieldType.byte), Jvm.Cond.code ({ cls := "java/lang/String", name := "startsWith", desc := "(Ljava/lang/String;)Z" } : Jvm.MethodName) jdk_42_method_76_code (2 : Nat) (Option.some Jvm.ClassFile.FieldType.boolean), Jvm.Cond.code ({ cls := "java/lang/String", name := "startsWith", desc := "(Ljava/lang/String;I)Z" } : Jvm.MethodName) jdk_42_method_75_code (8 : Nat) (Option.some Jvm.ClassFile.FieldType.boolean), Jvm.Cond.code ({ cls := "java/lang/String", name := "length", desc := "()I" } : Jvm.MethodName) jdk_42_method_54_code (1 : Nat) (Option.some Jvm.ClassFile.FieldType.int), Jvm.Cond.code ({ cls := "java/lang/String", name := "coder", desc := "()B" } : Jvm.MethodName) jdk_42_method_152_code (1 : Nat) (Option.some Jvm.ClassFile.FieldType.byte), Jvm.Cond.code ({ cls := "jdk/internal/util/ArraysSupport", name := "mismatch", desc := "([BI[BII)I" } : Jvm.MethodName) jdk_48_method_14_code (8 : Nat) (Option.some Jvm.ClassFile.FieldType.int), Jvm.Cond.code ({ cls := "java/lang/String", name := "charAt", desc := "(I)C" } : Jvm.MethodName) jdk_42_method_56_code (2 : Nat) (Option.some Jvm.ClassFile.FieldType.char), Jvm.Cond.code ({ cls := "java/lang/String", name := "isLatin1", desc := "()Z" } : Jvm.MethodName) jdk_42_method_154_code (1 : Nat) (Option.some Jvm.ClassFile.FieldType.boolean), Jvm.Cond.code ({ cls := "java/lang/StringLatin1", name := "charAt", desc := "([BI)C" } : Jvm.MethodName) jdk_43_method_2_code (2 : Nat) (Option.some Jvm.ClassFile.FieldType.char), Jvm.Cond.code ({ cls := "java/lang/String", name := "checkIndex", desc := "(II)V" } : Jvm.MethodName) jdk_42_method_155_code (2 : Nat) (Option.none : Option Jvm.ClassFile.FieldType), Jvm.Cond.code ({ cls := "jdk/internal/util/Preconditions", name := "checkIndex", desc := "(IILjava/util/function/BiFunction;)I" } : Jvm.MethodName) jdk_41_method_11_code (3 : Nat) (Option.some Jvm.ClassFile.FieldType.int)]
set_option maxRecDepth 65536 in
theorem codes_eq : words1.filter isCode = codes1 := rfl
theorem w_codes : ∀ c ∈ words1.filter isCode, c.before args0 about1 = true := by
  rw [codes_eq]
  intro c hc
  simp only [codes1, List.mem_cons, List.not_mem_nil, or_false] at hc
  rcases hc with rfl | rfl | rfl | rfl | rfl | rfl | rfl | rfl | rfl | rfl | rfl | rfl | rfl | rfl | rfl | rfl | rfl | rfl | rfl | rfl | rfl
  · exact w_c0
  · exact w_c1
  · exact w_c2
  · exact w_c3
  · exact w_c4
  · exact w_c5
  · exact w_c6
  · exact w_c7
  · exact w_c8
  · exact w_c9
  · exact w_c10
  · exact w_c11
  · exact w_c12
  · exact w_c13
  · exact w_c14
  · exact w_c15
  · exact w_c16
  · exact w_c17
  · exact w_c18
  · exact w_c19
  · exact w_c20
set_option maxRecDepth 65536 in
theorem w_t1 : (words1.take 24).all (fun c => isCode c || c.before args0 about1) = true := by decide +kernel
set_option maxRecDepth 65536 in
theorem w_t2 : ((words1.drop 24).take 24).all (fun c => isCode c || c.before args0 about1) = true := by decide +kernel
set_option maxRecDepth 65536 in
theorem w_t3 : (((words1.drop 24).drop 24).take 24).all (fun c => isCode c || c.before args0 about1) = true := by decide +kernel
set_option maxRecDepth 65536 in
theorem w_t4 : ((((words1.drop 24).drop 24).drop 24).take 24).all (fun c => isCode c || c.before args0 about1) = true := by decide +kernel
set_option maxRecDepth 65536 in
theorem w_t5 : ((((words1.drop 24).drop 24).drop 24).drop 24).all (fun c => isCode c || c.before args0 about1) = true := by decide +kernel
theorem w_tables : (allAtoms (Jvm.Cond.code x code maxLocals ret :: tables_1)).before args0 about1 = true := by
  rw [allAtoms_all]
  show words1.all (fun c => c.before args0 about1) = true
  refine all_split ?_ w_codes
  rw [← List.take_append_drop 24 words1, List.all_append, w_t1, ← List.take_append_drop 24 (words1.drop 24), List.all_append, w_t2, ← List.take_append_drop 24 ((words1.drop 24).drop 24), List.all_append, w_t3, ← List.take_append_drop 24 (((words1.drop 24).drop 24).drop 24), List.all_append, w_t4, w_t5]
  rfl
set_option maxRecDepth 65536 in
theorem w_rest : rest_1_c.before args0 about1 = true := by decide +kernel
set_option maxRecDepth 65536 in
theorem w_case : (Jvm.Cond.and given_1 narrow_1).before args0 about1 = true := by decide +kernel
set_option maxRecDepth 65536 in
theorem w_consts : constsHeld consts_1 about1 := Jvm.Lit.constsHeldB_iff.mp (by decide +kernel)
theorem w_applies : (headSpec (Jvm.Cond.code x code maxLocals ret :: tables_1) room_1).applies x e0.platform about1 = true :=
  (Spec.applies_iff w_frames).mpr ⟨w_running, w_runnable, w_alone, w_named, w_hears, w_ripe, w_room, w_tables⟩
theorem atStart : AtStart classFile x code maxLocals ret World_1 tables_1 room_1 Calls_1 rest_1 Pre_1 launch0 p0 e0 about1 theMethod args0 below0 :=
  ⟨lists_1, trivial, launch0.admits_env _ _ _, launch0.least_env, fairChoices_fair.cas, fairChoices_fair.clock, w_frames, w_args, w_heap, w_applies, ⟨w_consts, trivial⟩, w_rest, w_case⟩
end start1
theorem witness_1 : WitnessClaimed_1 := ⟨start1.p0, start1.e0, start1.about1, start1.theMethod, start1.args0, start1.below0, start1.atStart⟩
end Jvm.Pilot.@@N@@
